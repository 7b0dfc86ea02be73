/-
  The card of BodySound: whatever the input, the law returns true, and the input reads as it did. Conditions: the row's list of variables alone.
-/
import Derived.Test.YtglbboamemndeaaGreatDoorS10
import Derived.Test.YtglbboamemndeaaGreatDoorS16
import Derived.Test.YtglbboamemndeaaGreatDoorS32
set_option linter.all false
namespace Go.Proofs.YtglbboamemndeaaGreatDoor.bodySound
open Go Go.ChangeShapes Go.WideShapes Go.ChangeAt Go.RowKit Go.Am Go.Proofs.YtglbboamemndeaaGreatDoor.xy
theorem params:Tryz.f3.params=#[27,28,29]:=C4
theorem resultTypes:Tryz.f3.resultTypes=#[4]:=C4
abbrev tys:List Ty:=[jK,.sl tOp,.sl oY]
set_option maxRecDepth 10000 in
theorem contract(H:Type)(enc:TypeId×Value->H)(W:World)(base:Nat)(args:Array Value)(ds gs:List (DataW H))(before:List MemPlace)
  (Qr:∀(j:Nat) t v,Tryz.f3.params[j]?=some t->args[j]?=some v->Value.okWide Tryz.prog W .any base t v)
  (hW:DataW.Whole enc Tryz.prog Tryz.f3.params.toList Rows.bodySoundSpec.vars false W args.toList ds gs before) (b:laidMetH Tryz.prog Rows.bodySoundRow.laid W):
  Calls Tryz.prog 3 args W λe W'=>∃v,e= .returned v/\Rows.bodySoundSpec.post enc Tryz.prog Tryz.f3 false true false false W args v W':=by
 have a:cx.P=Tryz.prog:=rfl;rw[<-a] at Qr hW⊢;refine bN (C:=cx) (f:=3) (fn:=Tryz.f3) (s:=Rows.bodySoundSpec) (args:=args) (W:=W) (ds:=ds) (gs:=gs) (before:=before) (base:=base) mixed ax ym wM AM resultTypes Tryz.underlying4 (tys:=tys) ?_ ?_ ?_ vA rfl ?_ (xz b) ?_ ?_;rotate_right 2;.exact Qr
 .exact hW
 .rw[params];rfl
 .intro i ty t h1 h2;rw[params] at h2;match i,h1,h2 with
  |0,h1,h2=>cases h1;cases h2;exact(C4:Qq Tryz.prog (jK) 27=true)
  |1,h1,h2=>cases h1;cases h2;exact(C4:Qq Tryz.prog (.sl tOp) 28=true)
  |2,h1,h2=>cases h1;cases h2;exact(C4:Qq Tryz.prog (.sl oY) 29=true)
  |i+3,h1,h2=>simp at h1
 .intro t ht;rw[params] at ht;simp only[AF,M7,vo] at ht;rcases ht with rfl|rfl|rfl<;>exact⟨C4,Mi C4⟩
 .intro ds hd;rw[params] at hd;match ds,hd with
  |[g,d,c],_=>rfl
theorem witness_row(os:Os){H:Type}(enc:TypeId×Value->H):
  (OpenSpec.ofChange Rows.bodySoundSpec).preRow enc Tryz.prog Tryz.f3 Rows.bodySoundRow.domain false Rows.bodySoundRow.laid ((P5 os).forCall (λ_ _=>0) ⟨#[],#[.agg #[.bool false,.int .i64 0,.string ⟨#[]⟩,.slice none 0 0,.bool false,.bool false],.slice none 0 0,.slice none 0 0],[]⟩).memory #[.agg #[.bool false,.int .i64 0,.string ⟨#[]⟩,.slice none 0 0,.bool false,.bool false],.slice none 0 0,.slice none 0 0]:=by
 have hw:(DataW.whole enc Tryz.prog ((P5 os).forCall (λ_ _=>0) ⟨#[],#[.agg #[.bool false,.int .i64 0,.string ⟨#[]⟩,.slice none 0 0,.bool false,.bool false],.slice none 0 0,.slice none 0 0],[]⟩).memory Tryz.f3.params.toList Rows.bodySoundSpec.vars false (#[.agg #[.bool false,.int .i64 0,.string ⟨#[]⟩,.slice none 0 0,.bool false,.bool false],.slice none 0 0,.slice none 0 0]:Array Value).toList 8).map (λx=>(x.1,x.2.1))=
  some ([.agg [.lit (.bool false),.agg [.lit (.int .i64 0),.lit (.string []),.nil,.lit (.bool false),.lit (.bool false)]],.nil,.nil],[]):=C4
 obtain⟨⟨c,b,a⟩,hx,Tq⟩:=aA7.1 hw;simp only[M8] at Tq;obtain⟨rfl,rfl⟩:=Tq;exact OpenSpec.preRow_of_cond 8 hx C4 (λk hk=>by cases hk) C4 (mf os _)
set_option maxRecDepth 100000 in
theorem lifted(os:Os)(started:os.Started)(H:Type)(enc:TypeId×Value->H)(F:Stop.Interp):
  ReturnsInHanded {} Tryz.checked os 3 .any ((OpenSpec.ofChange Rows.bodySoundSpec).preRow enc Tryz.prog Tryz.f3 Rows.bodySoundRow.domain false Rows.bodySoundRow.laid) (((OpenSpec.ofChange Rows.bodySoundSpec).at F).post enc Tryz.prog Tryz.f3 false true false false):=by
 refine returnsInHanded_of_row (C:=Tryz.checked) (s:=OpenSpec.ofChange Rows.bodySoundSpec) BI started C4 Tryz.func3
  (witness_row_atRef (enc:=enc) (C:=Tryz.checked) false (P5 os) #[.agg #[.bool false,.int .i64 0,.string ⟨#[]⟩,.slice none 0 0,.bool false,.bool false],.slice none 0 0,.slice none 0 0] rfl C4 C4 C4 (witness_row os enc)) ?_
 intro W base args ds gs before Qr hW _ _ _ a _ _;exact contract H enc W base args ds gs before Qr hW a
theorem pb1:(Rows.bodySoundRow.inPlace==Tryz.pinned.checked.prog.inPlace 3)=true:=C4
theorem pb2:(Rows.bodySoundRow.unfollowed==Tryz.pinned.checked.prog.unfollowed 3)=true:=C4
theorem pb3:(Rows.bodySoundRow.recurses==Tryz.pinned.checked.prog.recurses 3)=true:=C4
theorem pb4:(Rows.bodySoundRow.named==Tryz.pinned.checked.prog.varsNamed 3)=true:=C4
theorem closed:joinedFacts Tryz.pinned.checked.prog 3 Tryz.f3 (OpenSpec.ofChange Rows.bodySoundSpec).bare Rows.bodySoundRow=true:=bO C4 wM gA3 C4 C4 rfl gA7 rfl gA9 pb1 pb2 pb3 pb4 C4 C4 C4 C4 C4 C4 C4 C4 C4 gE1 rfl gE3 gE4 gE5 gE6 C4 C4 C4 C4
theorem named:Tryz.pinned.checked.prog.funcNamed Rows.bodySoundRow.func=some 3:=C4
theorem said:Rows.BodySoundSaid:=
 OpenClaim.holds_of_cond 3 Tryz.f3 rfl rfl rfl rfl rfl rfl rfl ⟨rfl,rfl,rfl,rfl,rfl⟩ rfl rfl rfl rfl rfl named Tryz.func3 closed
  (Mi C4) (by unfold Func.isWrapper;first|(rw[Ag Eg];kernel_rfl)|(rw[Af Eg];exact⟨rfl,rfl⟩))
  (λos started H enc _ F=>by rw[OpenClaim.pre_eq_preRow];exact lifted os started H enc F)
theorem plain(f:FuncId)(fn:Func)(hf:Tryz.pinned.checked.prog.funcNamed "thicket/thicketlaw08.BodySound"=some f)(xg:Tryz.pinned.checked.prog.funcs[f]?=some fn):
  true=Tryz.pinned.checked.prog.looks []/\∀(j:Nat) t,fn.params[j]?=some t->Tryz.pinned.checked.prog.wantsStandIn t=false:=by
 obtain rfl:f=3:=(D3 (named.symm.trans hf)).symm;obtain rfl:fn=Tryz.f3:=(D3 (Tryz.func3.symm.trans xg)).symm;refine⟨C4,λj t ht=>?_⟩;rw[params] at ht;match j,ht with
 |0,ht=>cases ht;exact(C4:Tryz.prog.wantsStandIn 27=false)
 |1,ht=>cases ht;exact(C4:Tryz.prog.wantsStandIn 28=false)
 |2,ht=>cases ht;exact(C4:Tryz.prog.wantsStandIn 29=false)
 |j+3,ht=>simp at ht
theorem card:Rows.BodySoundCardSaid:=
 Claim7.holds_tied_plain_at .later [] _ _ _ _ said (λ_ h=>by cases h) C4 (λ_ h=>by cases h) bodySound_row_tie rfl ⟨rfl,rfl⟩ C4 rfl plain (ay rfl)
end Go.Proofs.YtglbboamemndeaaGreatDoor.bodySound
