/-
  The card of BodyText: whatever the input, the law returns true, and the input reads as it did. Conditions: the row's list of variables alone.
-/
import Derived.Test.YtjjnhgoknielgaaGreatDoorW10
import Derived.Test.YtjjnhgoknielgaaGreatDoorW16
import Derived.Test.YtjjnhgoknielgaaGreatDoorW35
set_option linter.all false
namespace Go.Proofs.YtjjnhgoknielgaaGreatDoor.bodyText
open Go Go.ChangeShapes Go.WideShapes Go.ChangeAt Go.RowKit Go.Am Go.Proofs.YtjjnhgoknielgaaGreatDoor.aAA
theorem params:Tryz.f4.params=#[52]:=AT
theorem resultTypes:Tryz.f4.resultTypes=#[4]:=AT
abbrev tys:List Ty:=[.sl (.int .i32)]
set_option maxRecDepth 10000 in
theorem contract(H:Type)(enc:TypeId×Value->H)(W:World)(base:Nat)(args:Array Value)(ds gs:List (DataW H))(before:List MemPlace)
  (RT:∀(j:Nat) t v,Tryz.f4.params[j]?=some t->args[j]?=some v->Value.okWide Tryz.prog W .any base t v)
  (hW:DataW.Whole enc Tryz.prog Tryz.f4.params.toList Rows.bodyTextSpec.vars false W args.toList ds gs before) (b:laidMetH Tryz.prog Rows.bodyTextRow.laid W):
  Calls Tryz.prog 4 args W λe W'=>∃v,e= .returned v/\Rows.bodyTextSpec.post enc Tryz.prog Tryz.f4 false true false false W args v W':=by
 have a:cx.P=Tryz.prog:=rfl;rw[<-a] at RT hW⊢;refine gN (C:=cx) (f:=4) (fn:=Tryz.f4) (s:=Rows.bodyTextSpec) (args:=args) (W:=W) (ds:=ds) (gs:=gs) (before:=before) (base:=base) mixed qu aAP zL Az resultTypes Tryz.underlying4 (tys:=tys) ?_ ?_ ?_ mN rfl ?_ (aAB b) ?_ ?_;rotate_right 2;.exact RT
 .exact hW
 .rw[params];rfl
 .intro i ty t h1 h2;rw[params] at h2;match i,h1,h2 with
  |0,h1,h2=>cases h1;cases h2;exact(AT:TJ Tryz.prog (.sl (.int .i32)) 52=true)
  |i+1,h1,h2=>simp at h1
 .intro t ht;rw[params] at ht;simp only[AF,Ej,Mv] at ht;rcases ht with rfl<;>exact⟨AT,CC AT⟩
 .intro ds hd;rw[params] at hd;match ds,hd with
  |[c],_=>rfl
theorem witness_row(os:Os){H:Type}(enc:TypeId×Value->H):
  (OpenSpec.ofChange Rows.bodyTextSpec).preRow enc Tryz.prog Tryz.f4 Rows.bodyTextRow.domain false Rows.bodyTextRow.laid ((Ry os).forCall (λ_ _=>0) ⟨#[],#[.slice none 0 0],[]⟩).memory #[.slice none 0 0]:=by
 have hw:(DataW.whole enc Tryz.prog ((Ry os).forCall (λ_ _=>0) ⟨#[],#[.slice none 0 0],[]⟩).memory Tryz.f4.params.toList Rows.bodyTextSpec.vars false (#[.slice none 0 0]:Array Value).toList 8).map (λx=>(x.1,x.2.1))=
  some ([.nil],[]):=AT
 obtain⟨⟨c,b,a⟩,hx,UU⟩:=aIa.1 hw;simp only[Mt] at UU;obtain⟨rfl,rfl⟩:=UU;exact OpenSpec.preRow_of_cond 8 hx AT (λk hk=>by cases hk) AT (X_ os _)
set_option maxRecDepth 100000 in
theorem lifted(os:Os)(started:os.Started)(H:Type)(enc:TypeId×Value->H)(F:Stop.Interp):
  ReturnsInHanded {} Tryz.checked os 4 .any ((OpenSpec.ofChange Rows.bodyTextSpec).preRow enc Tryz.prog Tryz.f4 Rows.bodyTextRow.domain false Rows.bodyTextRow.laid) (((OpenSpec.ofChange Rows.bodyTextSpec).at F).post enc Tryz.prog Tryz.f4 false true false false):=by
 refine returnsInHanded_of_row (C:=Tryz.checked) (s:=OpenSpec.ofChange Rows.bodyTextSpec) BU started AT Tryz.func4
  (witness_row_atRef (enc:=enc) (C:=Tryz.checked) false (Ry os) #[.slice none 0 0] rfl AT AT AT (witness_row os enc)) ?_
 intro W base args ds gs before RT hW _ _ _ a _ _;exact contract H enc W base args ds gs before RT hW a
theorem closed:joinedFacts Tryz.pinned.checked.prog 4 Tryz.f4 (OpenSpec.ofChange Rows.bodyTextSpec).bare Rows.bodyTextRow=true:=gO AT zL gA3 AT AT rfl gA7 rfl gA9 AT AT AT AT AT AT AT AT AT AT AT AT AT gE1 rfl gE3 gE4 gE5 gE6 AT AT AT AT
theorem named:Tryz.pinned.checked.prog.funcNamed Rows.bodyTextRow.func=some 4:=AT
theorem said:Rows.BodyTextSaid:=
 OpenClaim.holds_of_cond 4 Tryz.f4 rfl rfl rfl rfl rfl rfl rfl ⟨rfl,rfl,rfl,rfl,rfl⟩ rfl rfl rfl rfl rfl named Tryz.func4 closed
  (CC AT) (by unfold Func.isWrapper;first|(rw[Ae Ed];kernel_rfl)|(rw[Aa Ed];exact⟨rfl,rfl⟩))
  (λos started H enc _ F=>by rw[OpenClaim.pre_eq_preRow];exact lifted os started H enc F)
theorem plain(f:FuncId)(fn:Func)(hf:Tryz.pinned.checked.prog.funcNamed "thicket/thicketlaw08.BodyText"=some f)(y9:Tryz.pinned.checked.prog.funcs[f]?=some fn):
  true=Tryz.pinned.checked.prog.looks []/\∀(j:Nat) t,fn.params[j]?=some t->Tryz.pinned.checked.prog.wantsStandIn t=false:=by
 obtain rfl:f=4:=(Ff (named.symm.trans hf)).symm;obtain rfl:fn=Tryz.f4:=(Ff (Tryz.func4.symm.trans y9)).symm;refine⟨AT,λj t ht=>?_⟩;rw[params] at ht;match j,ht with
 |0,ht=>cases ht;exact(AT:Tryz.prog.wantsStandIn 52=false)
 |j+1,ht=>simp at ht
theorem card:Rows.BodyTextCardSaid:=
 Claim7.holds_tied_plain_at .later [] _ _ _ _ said (λ_ h=>by cases h) AT (λ_ h=>by cases h) bodyText_row_tie rfl ⟨rfl,rfl⟩ AT rfl plain (qv rfl)
end Go.Proofs.YtjjnhgoknielgaaGreatDoor.bodyText
