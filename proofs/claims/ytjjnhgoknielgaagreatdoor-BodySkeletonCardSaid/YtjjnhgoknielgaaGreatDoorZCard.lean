/-
  The card of BodySkeleton: whatever the input, the law returns true, and the input reads as it did. Conditions: the row's list of variables alone.
-/
import Derived.Test.YtjjnhgoknielgaaGreatDoorZ10
import Derived.Test.YtjjnhgoknielgaaGreatDoorZ16
import Derived.Test.YtjjnhgoknielgaaGreatDoorZ35
set_option linter.all false
namespace Go.Proofs.YtjjnhgoknielgaaGreatDoor.bodySkeleton
open Go Go.ChangeShapes Go.WideShapes Go.ChangeAt Go.RowKit Go.Am Go.Proofs.YtjjnhgoknielgaaGreatDoor.Ţ
theorem params:Tryz.f3.params=#[22]:=AP
theorem resultTypes:Tryz.f3.resultTypes=#[4]:=AP
abbrev tys:List Ty:=[.sl ta]
set_option maxRecDepth 10000 in
theorem contract(H:Type)(enc:TypeId×Value->H)(W:World)(base:Nat)(args:Array Value)(ds gs:List (DataW H))(before:List MemPlace)
  (RH:∀(j:Nat) t v,Tryz.f3.params[j]?=some t->args[j]?=some v->Value.okWide Tryz.prog W .any base t v)
  (hW:DataW.Whole enc Tryz.prog Tryz.f3.params.toList Rows.bodySkeletonSpec.vars false W args.toList ds gs before) (b:laidMetH Tryz.prog Rows.bodySkeletonRow.laid W):
  Calls Tryz.prog 3 args W λe W'=>∃v,e= .returned v/\Rows.bodySkeletonSpec.post enc Tryz.prog Tryz.f3 false true false false W args v W':=by
 have a:cx.P=Tryz.prog:=rfl;rw[<-a] at RH hW⊢;refine fI (C:=cx) (f:=3) (fn:=Tryz.f3) (s:=Rows.bodySkeletonSpec) (args:=args) (W:=W) (ds:=ds) (gs:=gs) (before:=before) (base:=base) mixed nl ű xQ AA resultTypes Tryz.underlying4 (tys:=tys) ?_ ?_ ?_ lA rfl ?_ (ţ b) ?_ ?_;rotate_right 2;.exact RH
 .exact hW
 .rw[params];rfl
 .intro i ty t h1 h2;rw[params] at h2;match i,h1,h2 with
  |0,h1,h2=>cases h1;cases h2;exact(AP:Tp Tryz.prog (.sl ta) 22=true)
  |i+1,h1,h2=>simp at h1
 .intro t ht;rw[params] at ht;simp only[AE,Ej,Ml] at ht;rcases ht with rfl<;>exact⟨AP,CD AP⟩
 .intro ds hd;rw[params] at hd;match ds,hd with
  |[c],_=>rfl
theorem witness_row(os:Os){H:Type}(enc:TypeId×Value->H):
  (OpenSpec.ofChange Rows.bodySkeletonSpec).preRow enc Tryz.prog Tryz.f3 Rows.bodySkeletonRow.domain false Rows.bodySkeletonRow.laid ((Rl os).forCall (λ_ _=>0) ⟨#[],#[.slice none 0 0],[]⟩).memory #[.slice none 0 0]:=by
 have hw:(DataW.whole enc Tryz.prog ((Rl os).forCall (λ_ _=>0) ⟨#[],#[.slice none 0 0],[]⟩).memory Tryz.f3.params.toList Rows.bodySkeletonSpec.vars false (#[.slice none 0 0]:Array Value).toList 8).map (λx=>(x.1,x.2.1))=
  some ([.nil],[]):=AP
 obtain⟨⟨c,b,a⟩,hx,UE⟩:=aGZ.1 hw;simp only[Mj] at UE;obtain⟨rfl,rfl⟩:=UE;exact OpenSpec.preRow_of_cond 8 hx AP (λk hk=>by cases hk) AP (yr os _)
set_option maxRecDepth 100000 in
theorem lifted(os:Os)(started:os.Started)(H:Type)(enc:TypeId×Value->H)(F:Stop.Interp):
  ReturnsInHanded {} Tryz.checked os 3 .any ((OpenSpec.ofChange Rows.bodySkeletonSpec).preRow enc Tryz.prog Tryz.f3 Rows.bodySkeletonRow.domain false Rows.bodySkeletonRow.laid) (((OpenSpec.ofChange Rows.bodySkeletonSpec).at F).post enc Tryz.prog Tryz.f3 false true false false):=by
 refine returnsInHanded_of_row (C:=Tryz.checked) (s:=OpenSpec.ofChange Rows.bodySkeletonSpec) BT started AP Tryz.func3
  (witness_row_atRef (enc:=enc) (C:=Tryz.checked) false (Rl os) #[.slice none 0 0] rfl AP AP AP (witness_row os enc)) ?_
 intro W base args ds gs before RH hW _ _ _ a _ _;exact contract H enc W base args ds gs before RH hW a
theorem closed:joinedFacts Tryz.pinned.checked.prog 3 Tryz.f3 (OpenSpec.ofChange Rows.bodySkeletonSpec).bare Rows.bodySkeletonRow=true:=fJ AP xQ gA3 AP AP rfl gA7 rfl gA9 AP AP AP AP AP AP AP AP AP AP AP AP AP gE1 rfl gE3 gE4 gE5 gE6 AP AP AP AP
theorem named:Tryz.pinned.checked.prog.funcNamed Rows.bodySkeletonRow.func=some 3:=AP
theorem said:Rows.BodySkeletonSaid:=
 OpenClaim.holds_of_cond 3 Tryz.f3 rfl rfl rfl rfl rfl rfl rfl ⟨rfl,rfl,rfl,rfl,rfl⟩ rfl rfl rfl rfl rfl named Tryz.func3 closed
  (CD AP) (by unfold Func.isWrapper;first|(rw[Af Ed];kernel_rfl)|(rw[Ac Ed];exact⟨rfl,rfl⟩))
  (λos started H enc _ F=>by rw[OpenClaim.pre_eq_preRow];exact lifted os started H enc F)
theorem plain(f:FuncId)(fn:Func)(hf:Tryz.pinned.checked.prog.funcNamed "thicket/thicketlaw08.BodySkeleton"=some f)(xD:Tryz.pinned.checked.prog.funcs[f]?=some fn):
  true=Tryz.pinned.checked.prog.looks []/\∀(j:Nat) t,fn.params[j]?=some t->Tryz.pinned.checked.prog.wantsStandIn t=false:=by
 obtain rfl:f=3:=(E8 (named.symm.trans hf)).symm;obtain rfl:fn=Tryz.f3:=(E8 (Tryz.func3.symm.trans xD)).symm;refine⟨AP,λj t ht=>?_⟩;rw[params] at ht;match j,ht with
 |0,ht=>cases ht;exact(AP:Tryz.prog.wantsStandIn 22=false)
 |j+1,ht=>simp at ht
theorem card:Rows.BodySkeletonCardSaid:=
 Claim7.holds_tied_plain_at .later [] _ _ _ _ said (λ_ h=>by cases h) AP (λ_ h=>by cases h) bodySkeleton_row_tie rfl ⟨rfl,rfl⟩ AP rfl plain (np rfl)
end Go.Proofs.YtjjnhgoknielgaaGreatDoor.bodySkeleton
