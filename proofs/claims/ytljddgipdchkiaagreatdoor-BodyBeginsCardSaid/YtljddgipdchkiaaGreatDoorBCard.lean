/-
  The card of BodyBegins: whatever the input, the law returns true, and the input reads as it did. Conditions: the row's list of variables alone.
-/
import Derived.Test.YtljddgipdchkiaaGreatDoorB10
import Derived.Test.YtljddgipdchkiaaGreatDoorB16
import Derived.Test.YtljddgipdchkiaaGreatDoorB34
set_option linter.all false
namespace Go.Proofs.YtljddgipdchkiaaGreatDoor.bodyBegins
open Go Go.ChangeShapes Go.WideShapes Go.ChangeAt Go.RowKit Go.Am Go.Proofs.YtljddgipdchkiaaGreatDoor.yq
theorem params:Tryz.f3.params=#[27,28,31,4]:=Da
theorem resultTypes:Tryz.f3.resultTypes=#[4]:=Da
abbrev tys:List Ty:=[j0,.sl tOp,wk,.bool]
set_option maxRecDepth 10000 in
theorem contract(H:Type)(enc:TypeId×Value->H)(W:World)(base:Nat)(args:Array Value)(ds gs:List (DataW H))(before:List MemPlace)
  (Ri:∀(j:Nat) t v,Tryz.f3.params[j]?=some t->args[j]?=some v->Value.okWide Tryz.prog W .any base t v)
  (hW:DataW.Whole enc Tryz.prog Tryz.f3.params.toList Rows.bodyBeginsSpec.vars false W args.toList ds gs before) (b:laidMetH Tryz.prog Rows.bodyBeginsRow.laid W):
  Calls Tryz.prog 3 args W λe W'=>∃v,e= .returned v/\Rows.bodyBeginsSpec.post enc Tryz.prog Tryz.f3 false true false false W args v W':=by
 have a:cx.P=Tryz.prog:=rfl;rw[<-a] at Ri hW⊢;refine cH (C:=cx) (f:=3) (fn:=Tryz.f3) (s:=Rows.bodyBeginsSpec) (args:=args) (W:=W) (ds:=ds) (gs:=gs) (before:=before) (base:=base) mixed de zi vZ AX resultTypes Tryz.underlying4 (tys:=tys) ?_ ?_ ?_ oT rfl ?_ (yr b) ?_ ?_;rotate_right 2;.exact Ri
 .exact hW
 .rw[params];rfl
 .intro i ty t h1 h2;rw[params] at h2;match i,h1,h2 with
  |0,h1,h2=>cases h1;cases h2;exact(Da:Pr Tryz.prog (j0) 27=true)
  |1,h1,h2=>cases h1;cases h2;exact(Da:Pr Tryz.prog (.sl tOp) 28=true)
  |2,h1,h2=>cases h1;cases h2;exact(Da:Pr Tryz.prog (wk) 31=true)
  |3,h1,h2=>cases h1;cases h2;exact(Da:Pr Tryz.prog (.bool) 4=true)
  |i+4,h1,h2=>simp at h1
 .intro t ht;rw[params] at ht;simp only[AT,S8,aH1] at ht;rcases ht with rfl|rfl|rfl|rfl<;>exact⟨Da,HZ Da⟩
 .intro ds hd;rw[params] at hd;match ds,hd with
  |[h,g,d,c],_=>rfl
theorem witness_row(os:Os){H:Type}(enc:TypeId×Value->H):
  (OpenSpec.ofChange Rows.bodyBeginsSpec).preRow enc Tryz.prog Tryz.f3 Rows.bodyBeginsRow.domain false Rows.bodyBeginsRow.laid ((Qe os).forCall (λ_ _=>0) ⟨#[],#[.agg #[.bool false,.int .i64 0,.string ⟨#[]⟩,.slice none 0 0,.bool false,.bool false],.slice none 0 0,.agg #[.int .i64 0,.string ⟨#[]⟩,.bool false,.string ⟨#[]⟩,.bool false,.string ⟨#[]⟩,.bool false,.bool false,.slice none 0 0,.bool false,.string ⟨#[]⟩,.int .i32 0],.bool false],[]⟩).memory #[.agg #[.bool false,.int .i64 0,.string ⟨#[]⟩,.slice none 0 0,.bool false,.bool false],.slice none 0 0,.agg #[.int .i64 0,.string ⟨#[]⟩,.bool false,.string ⟨#[]⟩,.bool false,.string ⟨#[]⟩,.bool false,.bool false,.slice none 0 0,.bool false,.string ⟨#[]⟩,.int .i32 0],.bool false]:=by
 have hw:(DataW.whole enc Tryz.prog ((Qe os).forCall (λ_ _=>0) ⟨#[],#[.agg #[.bool false,.int .i64 0,.string ⟨#[]⟩,.slice none 0 0,.bool false,.bool false],.slice none 0 0,.agg #[.int .i64 0,.string ⟨#[]⟩,.bool false,.string ⟨#[]⟩,.bool false,.string ⟨#[]⟩,.bool false,.bool false,.slice none 0 0,.bool false,.string ⟨#[]⟩,.int .i32 0],.bool false],[]⟩).memory Tryz.f3.params.toList Rows.bodyBeginsSpec.vars false (#[.agg #[.bool false,.int .i64 0,.string ⟨#[]⟩,.slice none 0 0,.bool false,.bool false],.slice none 0 0,.agg #[.int .i64 0,.string ⟨#[]⟩,.bool false,.string ⟨#[]⟩,.bool false,.string ⟨#[]⟩,.bool false,.bool false,.slice none 0 0,.bool false,.string ⟨#[]⟩,.int .i32 0],.bool false]:Array Value).toList 8).map (λx=>(x.1,x.2.1))=
  some ([.agg [.lit (.bool false),.agg [.lit (.int .i64 0),.lit (.string []),.nil,.lit (.bool false),.lit (.bool false)]],.nil,.agg [.lit (.int .i64 0),.lit (.string []),.lit (.bool false),.lit (.string []),.lit (.bool false),.lit (.string []),.lit (.bool false),.lit (.bool false),.nil,.lit (.bool false),.lit (.string []),.lit (.int .i32 0)],.lit (.bool false)],[]):=Da
 obtain⟨⟨c,b,a⟩,hx,OX⟩:=ME.1 hw;simp only[Ih] at OX;obtain⟨rfl,rfl⟩:=OX;exact OpenSpec.preRow_of_cond 8 hx Da (λk hk=>by cases hk) Da (oq os _)
set_option maxRecDepth 100000 in
theorem lifted(os:Os)(started:os.Started)(H:Type)(enc:TypeId×Value->H)(F:Stop.Interp):
  ReturnsInHanded {} Tryz.checked os 3 .any ((OpenSpec.ofChange Rows.bodyBeginsSpec).preRow enc Tryz.prog Tryz.f3 Rows.bodyBeginsRow.domain false Rows.bodyBeginsRow.laid) (((OpenSpec.ofChange Rows.bodyBeginsSpec).at F).post enc Tryz.prog Tryz.f3 false true false false):=by
 refine returnsInHanded_of_row (C:=Tryz.checked) (s:=OpenSpec.ofChange Rows.bodyBeginsSpec) Bt started Da Tryz.func3
  (witness_row_atRef (enc:=enc) (C:=Tryz.checked) false (Qe os) #[.agg #[.bool false,.int .i64 0,.string ⟨#[]⟩,.slice none 0 0,.bool false,.bool false],.slice none 0 0,.agg #[.int .i64 0,.string ⟨#[]⟩,.bool false,.string ⟨#[]⟩,.bool false,.string ⟨#[]⟩,.bool false,.bool false,.slice none 0 0,.bool false,.string ⟨#[]⟩,.int .i32 0],.bool false] rfl Da Da Da (witness_row os enc)) ?_
 intro W base args ds gs before Ri hW _ _ _ a _ _;exact contract H enc W base args ds gs before Ri hW a
theorem pb1:(Rows.bodyBeginsRow.inPlace==Tryz.pinned.checked.prog.inPlace 3)=true:=Da
theorem pb2:(Rows.bodyBeginsRow.unfollowed==Tryz.pinned.checked.prog.unfollowed 3)=true:=Da
theorem pb3:(Rows.bodyBeginsRow.recurses==Tryz.pinned.checked.prog.recurses 3)=true:=Da
theorem pb4:(Rows.bodyBeginsRow.named==Tryz.pinned.checked.prog.varsNamed 3)=true:=Da
theorem closed:joinedFacts Tryz.pinned.checked.prog 3 Tryz.f3 (OpenSpec.ofChange Rows.bodyBeginsSpec).bare Rows.bodyBeginsRow=true:=cI Da vZ gA3 Da Da rfl gA7 rfl gA9 pb1 pb2 pb3 pb4 Da Da Da Da Da Da Da Da Da gE1 rfl gE3 gE4 gE5 gE6 Da Da Da Da
theorem named:Tryz.pinned.checked.prog.funcNamed Rows.bodyBeginsRow.func=some 3:=Da
theorem said:Rows.BodyBeginsSaid:=
 OpenClaim.holds_of_cond 3 Tryz.f3 rfl rfl rfl rfl rfl rfl rfl ⟨rfl,rfl,rfl,rfl,rfl⟩ rfl rfl rfl rfl rfl named Tryz.func3 closed
  (HZ Da) (by unfold Func.isWrapper;first|(rw[Ae EF];kernel_rfl)|(rw[Ac EF];exact⟨rfl,rfl⟩))
  (λos started H enc _ F=>by rw[OpenClaim.pre_eq_preRow];exact lifted os started H enc F)
theorem plain(f:FuncId)(fn:Func)(hf:Tryz.pinned.checked.prog.funcNamed "thicket/thicketlaw08.BodyBegins"=some f)(yf:Tryz.pinned.checked.prog.funcs[f]?=some fn):
  true=Tryz.pinned.checked.prog.looks []/\∀(j:Nat) t,fn.params[j]?=some t->Tryz.pinned.checked.prog.wantsStandIn t=false:=by
 obtain rfl:f=3:=(D2 (named.symm.trans hf)).symm;obtain rfl:fn=Tryz.f3:=(D2 (Tryz.func3.symm.trans yf)).symm;refine⟨Da,λj t ht=>?_⟩;rw[params] at ht;match j,ht with
 |0,ht=>cases ht;exact(Da:Tryz.prog.wantsStandIn 27=false)
 |1,ht=>cases ht;exact(Da:Tryz.prog.wantsStandIn 28=false)
 |2,ht=>cases ht;exact(Da:Tryz.prog.wantsStandIn 31=false)
 |3,ht=>cases ht;exact(Da:Tryz.prog.wantsStandIn 4=false)
 |j+4,ht=>simp at ht
theorem card:Rows.BodyBeginsCardSaid:=
 Claim7.holds_tied_plain_at .later [] _ _ _ _ said (λ_ h=>by cases h) Da (λ_ h=>by cases h) bodyBegins_row_tie rfl ⟨rfl,rfl⟩ Da rfl plain (df rfl)
end Go.Proofs.YtljddgipdchkiaaGreatDoor.bodyBegins
