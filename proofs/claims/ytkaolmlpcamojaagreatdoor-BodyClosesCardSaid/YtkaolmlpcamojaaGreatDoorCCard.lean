/-
  The card of BodyCloses: whatever the input, the law returns true, and the input reads as it did. Conditions: the row's list of variables alone.
-/
import Derived.Test.YtkaolmlpcamojaaGreatDoorC10
import Derived.Test.YtkaolmlpcamojaaGreatDoorC16
import Derived.Test.YtkaolmlpcamojaaGreatDoorC34
set_option linter.all false
namespace Go.Proofs.YtkaolmlpcamojaaGreatDoor.bodyCloses
open Go Go.ChangeShapes Go.WideShapes Go.ChangeAt Go.RowKit Go.Am Go.Proofs.YtkaolmlpcamojaaGreatDoor.Ì
theorem params:Tryz.f4.params=#[27,28,9]:=Dk
theorem resultTypes:Tryz.f4.resultTypes=#[4]:=Dk
abbrev tys:List Ty:=[lE,.sl tOp,.str]
set_option maxRecDepth 10000 in
theorem contract(H:Type)(enc:TypeId×Value->H)(W:World)(base:Nat)(args:Array Value)(ds gs:List (DataW H))(before:List MemPlace)
  (QV:∀(j:Nat) t v,Tryz.f4.params[j]?=some t->args[j]?=some v->Value.okWide Tryz.prog W .any base t v)
  (hW:DataW.Whole enc Tryz.prog Tryz.f4.params.toList Rows.bodyClosesSpec.vars false W args.toList ds gs before) (b:laidMetH Tryz.prog Rows.bodyClosesRow.laid W):
  Calls Tryz.prog 4 args W λe W'=>∃v,e= .returned v/\Rows.bodyClosesSpec.post enc Tryz.prog Tryz.f4 false true false false W args v W':=by
 have a:cx.P=Tryz.prog:=rfl;rw[<-a] at QV hW⊢;refine dG (C:=cx) (f:=4) (fn:=Tryz.f4) (s:=Rows.bodyClosesSpec) (args:=args) (W:=W) (ds:=ds) (gs:=gs) (before:=before) (base:=base) mixed iu ß yA AM resultTypes Tryz.underlying4 (tys:=tys) ?_ ?_ ?_ qL rfl ?_ (Í b) ?_ ?_;rotate_right 2;.exact QV
 .exact hW
 .rw[params];rfl
 .intro i ty t h1 h2;rw[params] at h2;match i,h1,h2 with
  |0,h1,h2=>cases h1;cases h2;exact(Dk:QU Tryz.prog (lE) 27=true)
  |1,h1,h2=>cases h1;cases h2;exact(Dk:QU Tryz.prog (.sl tOp) 28=true)
  |2,h1,h2=>cases h1;cases h2;exact(Dk:QU Tryz.prog (.str) 9=true)
  |i+3,h1,h2=>simp at h1
 .intro t ht;rw[params] at ht;simp only[AS,KF,qO] at ht;rcases ht with rfl|rfl|rfl<;>exact⟨Dk,J9 Dk⟩
 .intro ds hd;rw[params] at hd;match ds,hd with
  |[g,d,c],_=>rfl
theorem witness_row(os:Os){H:Type}(enc:TypeId×Value->H):
  (OpenSpec.ofChange Rows.bodyClosesSpec).preRow enc Tryz.prog Tryz.f4 Rows.bodyClosesRow.domain false Rows.bodyClosesRow.laid ((Qs os).forCall (λ_ _=>0) ⟨#[],#[.agg #[.bool false,.int .i64 0,.string ⟨#[]⟩,.slice none 0 0,.bool false,.bool false],.slice none 0 0,.string ⟨#[]⟩],[]⟩).memory #[.agg #[.bool false,.int .i64 0,.string ⟨#[]⟩,.slice none 0 0,.bool false,.bool false],.slice none 0 0,.string ⟨#[]⟩]:=by
 have hw:(DataW.whole enc Tryz.prog ((Qs os).forCall (λ_ _=>0) ⟨#[],#[.agg #[.bool false,.int .i64 0,.string ⟨#[]⟩,.slice none 0 0,.bool false,.bool false],.slice none 0 0,.string ⟨#[]⟩],[]⟩).memory Tryz.f4.params.toList Rows.bodyClosesSpec.vars false (#[.agg #[.bool false,.int .i64 0,.string ⟨#[]⟩,.slice none 0 0,.bool false,.bool false],.slice none 0 0,.string ⟨#[]⟩]:Array Value).toList 8).map (λx=>(x.1,x.2.1))=
  some ([.agg [.lit (.bool false),.agg [.lit (.int .i64 0),.lit (.string []),.nil,.lit (.bool false),.lit (.bool false)]],.nil,.lit (.string [])],[]):=Dk
 obtain⟨⟨c,b,a⟩,hx,Pd⟩:=MP.1 hw;simp only[Ir] at Pd;obtain⟨rfl,rfl⟩:=Pd;exact OpenSpec.preRow_of_cond 8 hx Dk (λk hk=>by cases hk) Dk (su os _)
set_option maxRecDepth 100000 in
theorem lifted(os:Os)(started:os.Started)(H:Type)(enc:TypeId×Value->H)(F:Stop.Interp):
  ReturnsInHanded {} Tryz.checked os 4 .any ((OpenSpec.ofChange Rows.bodyClosesSpec).preRow enc Tryz.prog Tryz.f4 Rows.bodyClosesRow.domain false Rows.bodyClosesRow.laid) (((OpenSpec.ofChange Rows.bodyClosesSpec).at F).post enc Tryz.prog Tryz.f4 false true false false):=by
 refine returnsInHanded_of_row (C:=Tryz.checked) (s:=OpenSpec.ofChange Rows.bodyClosesSpec) Bu started Dk Tryz.func4
  (witness_row_atRef (enc:=enc) (C:=Tryz.checked) false (Qs os) #[.agg #[.bool false,.int .i64 0,.string ⟨#[]⟩,.slice none 0 0,.bool false,.bool false],.slice none 0 0,.string ⟨#[]⟩] rfl Dk Dk Dk (witness_row os enc)) ?_
 intro W base args ds gs before QV hW _ _ _ a _ _;exact contract H enc W base args ds gs before QV hW a
theorem pb1:(Rows.bodyClosesRow.inPlace==Tryz.pinned.checked.prog.inPlace 4)=true:=Dk
theorem pb2:(Rows.bodyClosesRow.unfollowed==Tryz.pinned.checked.prog.unfollowed 4)=true:=Dk
theorem pb3:(Rows.bodyClosesRow.recurses==Tryz.pinned.checked.prog.recurses 4)=true:=Dk
theorem pb4:(Rows.bodyClosesRow.named==Tryz.pinned.checked.prog.varsNamed 4)=true:=Dk
theorem closed:joinedFacts Tryz.pinned.checked.prog 4 Tryz.f4 (OpenSpec.ofChange Rows.bodyClosesSpec).bare Rows.bodyClosesRow=true:=dH Dk yA gA3 Dk Dk rfl gA7 rfl gA9 pb1 pb2 pb3 pb4 Dk Dk Dk Dk Dk Dk Dk Dk Dk gE1 rfl gE3 gE4 gE5 gE6 Dk Dk Dk Dk
theorem named:Tryz.pinned.checked.prog.funcNamed Rows.bodyClosesRow.func=some 4:=Dk
theorem said:Rows.BodyClosesSaid:=
 OpenClaim.holds_of_cond 4 Tryz.f4 rfl rfl rfl rfl rfl rfl rfl ⟨rfl,rfl,rfl,rfl,rfl⟩ rfl rfl rfl rfl rfl named Tryz.func4 closed
  (J9 Dk) (by unfold Func.isWrapper;first|(rw[Af C4];kernel_rfl)|(rw[Ad C4];exact⟨rfl,rfl⟩))
  (λos started H enc _ F=>by rw[OpenClaim.pre_eq_preRow];exact lifted os started H enc F)
theorem plain(f:FuncId)(fn:Func)(hf:Tryz.pinned.checked.prog.funcNamed "thicket/thicketlaw08.BodyCloses"=some f)(Á:Tryz.pinned.checked.prog.funcs[f]?=some fn):
  true=Tryz.pinned.checked.prog.looks []/\∀(j:Nat) t,fn.params[j]?=some t->Tryz.pinned.checked.prog.wantsStandIn t=false:=by
 obtain rfl:f=4:=(D5 (named.symm.trans hf)).symm;obtain rfl:fn=Tryz.f4:=(D5 (Tryz.func4.symm.trans Á)).symm;refine⟨Dk,λj t ht=>?_⟩;rw[params] at ht;match j,ht with
 |0,ht=>cases ht;exact(Dk:Tryz.prog.wantsStandIn 27=false)
 |1,ht=>cases ht;exact(Dk:Tryz.prog.wantsStandIn 28=false)
 |2,ht=>cases ht;exact(Dk:Tryz.prog.wantsStandIn 9=false)
 |j+3,ht=>simp at ht
theorem card:Rows.BodyClosesCardSaid:=
 Claim7.holds_tied_plain_at .later [] _ _ _ _ said (λ_ h=>by cases h) Dk (λ_ h=>by cases h) bodyCloses_row_tie rfl ⟨rfl,rfl⟩ Dk rfl plain (iv rfl)
end Go.Proofs.YtkaolmlpcamojaaGreatDoor.bodyCloses
