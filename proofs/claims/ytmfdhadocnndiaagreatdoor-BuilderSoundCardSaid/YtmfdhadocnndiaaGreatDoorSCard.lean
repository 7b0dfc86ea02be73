/-
  The card of BuilderSound: whatever the input, the law returns true, and the input reads as it did. Conditions: the row's list of variables alone.
-/
import Derived.Test.YtmfdhadocnndiaaGreatDoorS10
import Derived.Test.YtmfdhadocnndiaaGreatDoorS17
import Derived.Test.YtmfdhadocnndiaaGreatDoorS31
set_option linter.all false
namespace Go.Proofs.YtmfdhadocnndiaaGreatDoor.builderSound
open Go Go.ChangeShapes Go.WideShapes Go.ChangeAt Go.RowKit Go.Am Go.Proofs.YtmfdhadocnndiaaGreatDoor.ã
theorem params:Tryz.f3.params=#[27,28]:=AU
theorem resultTypes:Tryz.f3.resultTypes=#[4]:=AU
abbrev tys:List Ty:=[X6,.sl P_]
set_option maxRecDepth 10000 in
theorem contract(H:Type)(enc:TypeId×Value->H)(W:World)(base:Nat)(args:Array Value)(ds gs:List (DataW H))(before:List MemPlace)
  (OM:∀(j:Nat) t v,Tryz.f3.params[j]?=some t->args[j]?=some v->Value.okWide Tryz.prog W .any base t v)
  (hW:DataW.Whole enc Tryz.prog Tryz.f3.params.toList Rows.builderSoundSpec.vars false W args.toList ds gs before) (b:laidMetH Tryz.prog Rows.builderSoundRow.laid W):
  Calls Tryz.prog 3 args W λe W'=>∃v,e= .returned v/\Rows.builderSoundSpec.post enc Tryz.prog Tryz.f3 false true false false W args v W':=by
 have a:cx.P=Tryz.prog:=rfl;rw[<-a] at OM hW⊢;refine WW (C:=cx) (f:=3) (fn:=Tryz.f3) (s:=Rows.builderSoundSpec) (args:=args) (W:=W) (ds:=ds) (gs:=gs) (before:=before) (base:=base) mixed nU bd iF Br resultTypes Tryz.underlying4 (tys:=tys) ?_ ?_ ?_ p8 rfl ?_ (aa b) ?_ ?_;rotate_right 2;.exact OM
 .exact hW
 .rw[params];rfl
 .intro i ty t h1 h2;rw[params] at h2;match i,h1,h2 with
  |0,h1,h2=>cases h1;cases h2;exact(AU:OL Tryz.prog (X6) 27=true)
  |1,h1,h2=>cases h1;cases h2;exact(AU:OL Tryz.prog (.sl P_) 28=true)
  |i+2,h1,h2=>simp at h1
 .intro t ht;rw[params] at ht;simp only[Az,List.not_mem_nil,or_false] at ht;rcases ht with rfl|rfl<;>exact⟨AU,aHd AU⟩
 .intro ds hd;rw[params] at hd;match ds,hd with
  |[d,c],_=>rfl
theorem witness_row(os:Os){H:Type}(enc:TypeId×Value->H):
  (OpenSpec.ofChange Rows.builderSoundSpec).preRow enc Tryz.prog Tryz.f3 Rows.builderSoundRow.domain false Rows.builderSoundRow.laid ((NT os).forCall (λ_ _=>0) ⟨#[],#[.agg #[.bool false,.int .i64 0,.string ⟨#[]⟩,.slice none 0 0,.bool false,.bool false],.slice none 0 0],[]⟩).memory #[.agg #[.bool false,.int .i64 0,.string ⟨#[]⟩,.slice none 0 0,.bool false,.bool false],.slice none 0 0]:=by
 have hw:(DataW.whole enc Tryz.prog ((NT os).forCall (λ_ _=>0) ⟨#[],#[.agg #[.bool false,.int .i64 0,.string ⟨#[]⟩,.slice none 0 0,.bool false,.bool false],.slice none 0 0],[]⟩).memory Tryz.f3.params.toList Rows.builderSoundSpec.vars false (#[.agg #[.bool false,.int .i64 0,.string ⟨#[]⟩,.slice none 0 0,.bool false,.bool false],.slice none 0 0]:Array Value).toList 8).map (λx=>(x.1,x.2.1))=
  some ([.agg [.lit (.bool false),.agg [.lit (.int .i64 0),.lit (.string []),.nil,.lit (.bool false),.lit (.bool false)]],.nil],[]):=AU
 obtain⟨⟨c,b,a⟩,hx,QG⟩:=Rb.1 hw;simp only[HV] at QG;obtain⟨rfl,rfl⟩:=QG;exact OpenSpec.preRow_of_cond 8 hx AU (λk hk=>by cases hk) AU (sZ os _)
set_option maxRecDepth 100000 in
theorem lifted(os:Os)(started:os.Started)(H:Type)(enc:TypeId×Value->H)(F:Stop.Interp):
  ReturnsInHanded {} Tryz.checked os 3 .any ((OpenSpec.ofChange Rows.builderSoundSpec).preRow enc Tryz.prog Tryz.f3 Rows.builderSoundRow.domain false Rows.builderSoundRow.laid) (((OpenSpec.ofChange Rows.builderSoundSpec).at F).post enc Tryz.prog Tryz.f3 false true false false):=by
 refine returnsInHanded_of_row (C:=Tryz.checked) (s:=OpenSpec.ofChange Rows.builderSoundSpec) BB started AU Tryz.func3
  (witness_row_atRef (enc:=enc) (C:=Tryz.checked) false (NT os) #[.agg #[.bool false,.int .i64 0,.string ⟨#[]⟩,.slice none 0 0,.bool false,.bool false],.slice none 0 0] rfl AU AU AU (witness_row os enc)) ?_
 intro W base args ds gs before OM hW _ _ _ a _ _;exact contract H enc W base args ds gs before OM hW a
theorem closed:joinedFacts Tryz.pinned.checked.prog 3 Tryz.f3 (OpenSpec.ofChange Rows.builderSoundSpec).bare Rows.builderSoundRow=true:=WY AU iF gA3 AU AU rfl gA7 rfl gA9 AU AU AU AU AU AU AU AU AU AU AU AU AU gE1 rfl gE3 gE4 gE5 gE6 AU AU AU AU
theorem named:Tryz.pinned.checked.prog.funcNamed Rows.builderSoundRow.func=some 3:=AU
theorem said:Rows.BuilderSoundSaid:=
 OpenClaim.holds_of_cond 3 Tryz.f3 rfl rfl rfl rfl rfl rfl rfl ⟨rfl,rfl,rfl,rfl,rfl⟩ rfl rfl rfl rfl rfl named Tryz.func3 closed
  (aHd AU) (by unfold Func.isWrapper;first|(rw[Ad eZ];kernel_rfl)|(rw[Ac eZ];exact⟨rfl,rfl⟩))
  (λos started H enc _ F=>by rw[OpenClaim.pre_eq_preRow];exact lifted os started H enc F)
theorem plain(f:FuncId)(fn:Func)(hf:Tryz.pinned.checked.prog.funcNamed "thicket/thicketlaw07.BuilderSound"=some f)(rV:Tryz.pinned.checked.prog.funcs[f]?=some fn):
  true=Tryz.pinned.checked.prog.looks []/\∀(j:Nat) t,fn.params[j]?=some t->Tryz.pinned.checked.prog.wantsStandIn t=false:=by
 obtain rfl:f=3:=(DC (named.symm.trans hf)).symm;obtain rfl:fn=Tryz.f3:=(DC (Tryz.func3.symm.trans rV)).symm;refine⟨AU,λj t ht=>?_⟩;rw[params] at ht;match j,ht with
 |0,ht=>cases ht;exact(AU:Tryz.prog.wantsStandIn 27=false)
 |1,ht=>cases ht;exact(AU:Tryz.prog.wantsStandIn 28=false)
 |j+2,ht=>simp at ht
theorem card:Rows.BuilderSoundCardSaid:=
 Claim7.holds_tied_plain_at .later [] _ _ _ _ said (λ_ h=>by cases h) AU (λ_ h=>by cases h) builderSound_row_tie rfl ⟨rfl,rfl⟩ AU rfl plain AU
end Go.Proofs.YtmfdhadocnndiaaGreatDoor.builderSound
