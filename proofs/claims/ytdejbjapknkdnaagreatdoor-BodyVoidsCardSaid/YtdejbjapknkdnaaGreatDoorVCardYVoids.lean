/- The card of BodyVoids. -/
import Derived.Test.YtdejbjapknkdnaaGreatDoorV10
import Derived.Test.YtdejbjapknkdnaaGreatDoorV16
import Derived.Test.YtdejbjapknkdnaaGreatDoorVLBUV
set_option linter.all false
namespace Go.Proofs.YtdejbjapknkdnaaGreatDoor.bodyVoids
open Go Go.ChangeShapes Go.WideShapes Go.ChangeAt Go.RowKit Go.Am Go.Proofs.YtdejbjapknkdnaaGreatDoor.qL
theorem params:Tryz.f6.params=#[22,3,59]:=by kernel_rfl
theorem resultTypes:Tryz.f6.resultTypes=#[4]:=by kernel_rfl
abbrev tys:List Ty:=[.sl SB,.int .i64,.sl YQ]
set_option maxRecDepth 10000 in
theorem contract(H:Type)(enc:TypeId×Value->H)(W:World)(base:Nat)(args:Array Value)(ds gs:List (DataW H))(before:List MemPlace)
  (JI:∀(j:Nat) t v,Tryz.f6.params[j]?=some t->args[j]?=some v->Value.okWide Tryz.prog W .any base t v)
  (a:DataW.Whole enc Tryz.prog Tryz.f6.params.toList Rows.bodyVoidsSpec.vars false W args.toList ds gs before) (c:laidMetH Tryz.prog Rows.bodyVoidsRow.laid W):
  Calls Tryz.prog 6 args W λe W'=>∃v,e= .returned v/\Rows.bodyVoidsSpec.post enc Tryz.prog Tryz.f6 false true false false W args v W':=by
 have b:cx.P=Tryz.prog:=rfl;rw[<-b] at JI a⊢;refine Mj (C:=cx) (f:=6) (fn:=Tryz.f6) (s:=Rows.bodyVoidsSpec) (args:=args) (W:=W) (ds:=ds) (gs:=gs) (before:=before) (base:=base) mixed Q0 Wx Nu (by decide) resultTypes Tryz.underlying4 (tys:=tys) ?_ ?_ ?_ pv rfl ?_ (Ww c) ?_ ?_;rotate_right 2;.exact JI
 .exact a
 .rw[params];rfl
 .intro i ty t h1 h2;rw[params] at h2;match i,h1,h2 with
  |0,h1,h2=>cases h1;cases h2;exact(show NM Tryz.prog (.sl SB) 22=true by kernel_rfl)
  |1,h1,h2=>cases h1;cases h2;exact(show NM Tryz.prog (.int .i64) 3=true by kernel_rfl)
  |2,h1,h2=>cases h1;cases h2;exact(show NM Tryz.prog (.sl YQ) 59=true by kernel_rfl)
  |i+3,h1,h2=>simp at h1
 .intro t ht;rw[params] at ht;simp only[Aw,DY,LW] at ht;rcases ht with rfl|rfl|rfl<;>exact⟨by kernel_rfl,BB (by kernel_rfl)⟩
 .intro ds hd;rw[params] at hd;match ds,hd with
  |[h,g,d],_=>rfl
theorem witness_row(os:Os){H:Type}(enc:TypeId×Value->H):
  (OpenSpec.ofChange Rows.bodyVoidsSpec).preRow enc Tryz.prog Tryz.f6 Rows.bodyVoidsRow.domain false Rows.bodyVoidsRow.laid ((FV os).forCall (λ_ _=>0) ⟨#[],#[.slice none 0 0,.int .i64 0,.slice none 0 0],[]⟩).memory #[.slice none 0 0,.int .i64 0,.slice none 0 0]:=by
 have hw:(DataW.whole enc Tryz.prog ((FV os).forCall (λ_ _=>0) ⟨#[],#[.slice none 0 0,.int .i64 0,.slice none 0 0],[]⟩).memory Tryz.f6.params.toList Rows.bodyVoidsSpec.vars false (#[.slice none 0 0,.int .i64 0,.slice none 0 0]:Array Value).toList 8).map (λx=>(x.1,x.2.1))=
  some ([.nil,.lit (.int .i64 0),.nil],[]):=by kernel_rfl
 obtain⟨⟨c,b,a⟩,hx,PR⟩:=Jj.1 hw;simp only[Hq] at PR;obtain⟨rfl,rfl⟩:=PR;exact OpenSpec.preRow_of_cond 8 hx (by kernel_rfl) (λk hk=>by cases hk) (by kernel_rfl) (Tf os _)
set_option maxRecDepth 100000 in
theorem lifted(os:Os)(started:os.Started)(H:Type)(enc:TypeId×Value->H)(F:Stop.Interp):
  ReturnsInHanded {} Tryz.checked os 6 .any ((OpenSpec.ofChange Rows.bodyVoidsSpec).preRow enc Tryz.prog Tryz.f6 Rows.bodyVoidsRow.domain false Rows.bodyVoidsRow.laid) (((OpenSpec.ofChange Rows.bodyVoidsSpec).at F).post enc Tryz.prog Tryz.f6 false true false false):=by
 refine returnsInHanded_of_row (C:=Tryz.checked) (s:=OpenSpec.ofChange Rows.bodyVoidsSpec) BN started (by kernel_rfl) Tryz.func6
  (witness_row_atRef (enc:=enc) (C:=Tryz.checked) false (FV os) #[.slice none 0 0,.int .i64 0,.slice none 0 0] rfl (by kernel_rfl) (by kernel_rfl) (by kernel_rfl) (witness_row os enc)) ?_
 intro W base args ds gs before JI a _ _ _ b _ _;exact contract H enc W base args ds gs before JI a b
theorem closed:joinedFacts Tryz.pinned.checked.prog 6 Tryz.f6 (OpenSpec.ofChange Rows.bodyVoidsSpec).bare Rows.bodyVoidsRow=true:=Mk (by kernel_rfl) Nu gA3 (by kernel_rfl) (by kernel_rfl) rfl gA7 rfl gA9 (by kernel_rfl) (by kernel_rfl) (by kernel_rfl) (by kernel_rfl) (by kernel_rfl) (by kernel_rfl) (by kernel_rfl) (by kernel_rfl) (by kernel_rfl) (by kernel_rfl) (by kernel_rfl) (by kernel_rfl) (by kernel_rfl) gE1 rfl gE3 gE4 gE5 gE6 (by kernel_rfl) (by kernel_rfl) (by kernel_rfl) (by kernel_rfl)
theorem named:Tryz.pinned.checked.prog.funcNamed Rows.bodyVoidsRow.func=some 6:=by kernel_rfl
theorem said:Rows.BodyVoidsSaid:=
 OpenClaim.holds_of_cond 6 Tryz.f6 rfl rfl rfl rfl rfl rfl rfl ⟨rfl,rfl,rfl,rfl,rfl⟩ rfl rfl rfl rfl rfl named Tryz.func6 closed
  (BB (by kernel_rfl)) (by unfold Func.isWrapper;first|(rw[if_pos (by decide+kernel)];kernel_rfl)|(rw[if_neg (by decide+kernel)];exact⟨rfl,rfl⟩))
  (λos started H enc _ F=>by rw[OpenClaim.pre_eq_preRow];exact lifted os started H enc F)
theorem plain(f:FuncId)(fn:Func)(hf:Tryz.pinned.checked.prog.funcNamed "thicket/thicketlaw08.BodyVoids"=some f)(jR:Tryz.pinned.checked.prog.funcs[f]?=some fn):
  true=Tryz.pinned.checked.prog.looks []/\∀(j:Nat) t,fn.params[j]?=some t->Tryz.pinned.checked.prog.wantsStandIn t=false:=by
 obtain rfl:f=6:=(C0 (named.symm.trans hf)).symm;obtain rfl:fn=Tryz.f6:=(C0 (Tryz.func6.symm.trans jR)).symm;refine⟨by kernel_rfl,λj t ht=>?_⟩;rw[params] at ht;match j,ht with
 |0,ht=>cases ht;exact(show Tryz.prog.wantsStandIn 22=false by kernel_rfl)
 |1,ht=>cases ht;exact(show Tryz.prog.wantsStandIn 3=false by kernel_rfl)
 |2,ht=>cases ht;exact(show Tryz.prog.wantsStandIn 59=false by kernel_rfl)
 |j+3,ht=>simp at ht
theorem card:Rows.BodyVoidsCardSaid:=
 Claim7.holds_tied_plain_at .later [] _ _ _ _ said (λ_ h=>by cases h) (by kernel_rfl) (λ_ h=>by cases h) bodyVoids_row_tie rfl ⟨rfl,rfl⟩ (by kernel_rfl) rfl plain (Q1 rfl)
end Go.Proofs.YtdejbjapknkdnaaGreatDoor.bodyVoids
