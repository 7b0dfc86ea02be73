/-
  The card of BodyTemplates: whatever the input, the law returns true, and the input reads as it did. Conditions: the row's list of variables alone.
-/
import Derived.Test.YtlcmmpgfafpoiaaGreatDoorT10
import Derived.Test.YtlcmmpgfafpoiaaGreatDoorT16
import Derived.Test.YtlcmmpgfafpoiaaGreatDoorT34
set_option linter.all false
namespace Go.Proofs.YtlcmmpgfafpoiaaGreatDoor.bodyTemplates
open Go Go.ChangeShapes Go.WideShapes Go.ChangeAt Go.RowKit Go.Am Go.Proofs.YtlcmmpgfafpoiaaGreatDoor.Ö
theorem params:Tryz.f4.params=#[27,28,31]:=Dg
theorem resultTypes:Tryz.f4.resultTypes=#[4]:=Dg
abbrev tys:List Ty:=[kY,.sl tOp,zu]
set_option maxRecDepth 10000 in
theorem contract(H:Type)(enc:TypeId×Value->H)(W:World)(base:Nat)(args:Array Value)(ds gs:List (DataW H))(before:List MemPlace)
  (Rt:∀(j:Nat) t v,Tryz.f4.params[j]?=some t->args[j]?=some v->Value.okWide Tryz.prog W .any base t v)
  (hW:DataW.Whole enc Tryz.prog Tryz.f4.params.toList Rows.bodyTemplatesSpec.vars false W args.toList ds gs before) (b:laidMetH Tryz.prog Rows.bodyTemplatesRow.laid W):
  Calls Tryz.prog 4 args W λe W'=>∃v,e= .returned v/\Rows.bodyTemplatesSpec.post enc Tryz.prog Tryz.f4 false true false false W args v W':=by
 have a:cx.P=Tryz.prog:=rfl;rw[<-a] at Rt hW⊢;refine dQ (C:=cx) (f:=4) (fn:=Tryz.f4) (s:=Rows.bodyTemplatesSpec) (args:=args) (W:=W) (ds:=ds) (gs:=gs) (before:=before) (base:=base) mixed ij é xK AU resultTypes Tryz.underlying4 (tys:=tys) ?_ ?_ ?_ Zd rfl ?_ (Ø b) ?_ ?_;rotate_right 2;.exact Rt
 .exact hW
 .rw[params];rfl
 .intro i ty t h1 h2;rw[params] at h2;match i,h1,h2 with
  |0,h1,h2=>cases h1;cases h2;exact(Dg:QL Tryz.prog (kY) 27=true)
  |1,h1,h2=>cases h1;cases h2;exact(Dg:QL Tryz.prog (.sl tOp) 28=true)
  |2,h1,h2=>cases h1;cases h2;exact(Dg:QL Tryz.prog (zu) 31=true)
  |i+3,h1,h2=>simp at h1
 .intro t ht;rw[params] at ht;simp only[AX,Nu,I_] at ht;rcases ht with rfl|rfl|rfl<;>exact⟨Dg,GH Dg⟩
 .intro ds hd;rw[params] at hd;match ds,hd with
  |[g,d,c],_=>rfl
theorem witness_row(os:Os){H:Type}(enc:TypeId×Value->H):
  (OpenSpec.ofChange Rows.bodyTemplatesSpec).preRow enc Tryz.prog Tryz.f4 Rows.bodyTemplatesRow.domain false Rows.bodyTemplatesRow.laid ((Qp os).forCall (λ_ _=>0) ⟨#[],#[.agg #[.bool false,.int .i64 0,.string ⟨#[]⟩,.slice none 0 0,.bool false,.bool false],.slice none 0 0,.agg #[.int .i64 0,.string ⟨#[]⟩,.bool false,.string ⟨#[]⟩,.bool false,.string ⟨#[]⟩,.bool false,.bool false,.slice none 0 0,.bool false,.string ⟨#[]⟩,.int .i32 0]],[]⟩).memory #[.agg #[.bool false,.int .i64 0,.string ⟨#[]⟩,.slice none 0 0,.bool false,.bool false],.slice none 0 0,.agg #[.int .i64 0,.string ⟨#[]⟩,.bool false,.string ⟨#[]⟩,.bool false,.string ⟨#[]⟩,.bool false,.bool false,.slice none 0 0,.bool false,.string ⟨#[]⟩,.int .i32 0]]:=by
 have hw:(DataW.whole enc Tryz.prog ((Qp os).forCall (λ_ _=>0) ⟨#[],#[.agg #[.bool false,.int .i64 0,.string ⟨#[]⟩,.slice none 0 0,.bool false,.bool false],.slice none 0 0,.agg #[.int .i64 0,.string ⟨#[]⟩,.bool false,.string ⟨#[]⟩,.bool false,.string ⟨#[]⟩,.bool false,.bool false,.slice none 0 0,.bool false,.string ⟨#[]⟩,.int .i32 0]],[]⟩).memory Tryz.f4.params.toList Rows.bodyTemplatesSpec.vars false (#[.agg #[.bool false,.int .i64 0,.string ⟨#[]⟩,.slice none 0 0,.bool false,.bool false],.slice none 0 0,.agg #[.int .i64 0,.string ⟨#[]⟩,.bool false,.string ⟨#[]⟩,.bool false,.string ⟨#[]⟩,.bool false,.bool false,.slice none 0 0,.bool false,.string ⟨#[]⟩,.int .i32 0]]:Array Value).toList 8).map (λx=>(x.1,x.2.1))=
  some ([.agg [.lit (.bool false),.agg [.lit (.int .i64 0),.lit (.string []),.nil,.lit (.bool false),.lit (.bool false)]],.nil,.agg [.lit (.int .i64 0),.lit (.string []),.lit (.bool false),.lit (.string []),.lit (.bool false),.lit (.string []),.lit (.bool false),.lit (.bool false),.nil,.lit (.bool false),.lit (.string []),.lit (.int .i32 0)]],[]):=Dg
 obtain⟨⟨c,b,a⟩,hx,Pb⟩:=MM.1 hw;simp only[Io] at Pb;obtain⟨rfl,rfl⟩:=Pb;exact OpenSpec.preRow_of_cond 8 hx Dg (λk hk=>by cases hk) Dg (tg os _)
set_option maxRecDepth 100000 in
theorem lifted(os:Os)(started:os.Started)(H:Type)(enc:TypeId×Value->H)(F:Stop.Interp):
  ReturnsInHanded {} Tryz.checked os 4 .any ((OpenSpec.ofChange Rows.bodyTemplatesSpec).preRow enc Tryz.prog Tryz.f4 Rows.bodyTemplatesRow.domain false Rows.bodyTemplatesRow.laid) (((OpenSpec.ofChange Rows.bodyTemplatesSpec).at F).post enc Tryz.prog Tryz.f4 false true false false):=by
 refine returnsInHanded_of_row (C:=Tryz.checked) (s:=OpenSpec.ofChange Rows.bodyTemplatesSpec) Bt started Dg Tryz.func4
  (witness_row_atRef (enc:=enc) (C:=Tryz.checked) false (Qp os) #[.agg #[.bool false,.int .i64 0,.string ⟨#[]⟩,.slice none 0 0,.bool false,.bool false],.slice none 0 0,.agg #[.int .i64 0,.string ⟨#[]⟩,.bool false,.string ⟨#[]⟩,.bool false,.string ⟨#[]⟩,.bool false,.bool false,.slice none 0 0,.bool false,.string ⟨#[]⟩,.int .i32 0]] rfl Dg Dg Dg (witness_row os enc)) ?_
 intro W base args ds gs before Rt hW _ _ _ a _ _;exact contract H enc W base args ds gs before Rt hW a
theorem pb1:(Rows.bodyTemplatesRow.inPlace==Tryz.pinned.checked.prog.inPlace 4)=true:=Dg
theorem pb2:(Rows.bodyTemplatesRow.unfollowed==Tryz.pinned.checked.prog.unfollowed 4)=true:=Dg
theorem pb3:(Rows.bodyTemplatesRow.recurses==Tryz.pinned.checked.prog.recurses 4)=true:=Dg
theorem pb4:(Rows.bodyTemplatesRow.named==Tryz.pinned.checked.prog.varsNamed 4)=true:=Dg
theorem closed:joinedFacts Tryz.pinned.checked.prog 4 Tryz.f4 (OpenSpec.ofChange Rows.bodyTemplatesSpec).bare Rows.bodyTemplatesRow=true:=dR Dg xK gA3 Dg Dg rfl gA7 rfl gA9 pb1 pb2 pb3 pb4 Dg Dg Dg Dg Dg Dg Dg Dg Dg gE1 rfl gE3 gE4 gE5 gE6 Dg Dg Dg Dg
theorem named:Tryz.pinned.checked.prog.funcNamed Rows.bodyTemplatesRow.func=some 4:=Dg
theorem said:Rows.BodyTemplatesSaid:=
 OpenClaim.holds_of_cond 4 Tryz.f4 rfl rfl rfl rfl rfl rfl rfl ⟨rfl,rfl,rfl,rfl,rfl⟩ rfl rfl rfl rfl rfl named Tryz.func4 closed
  (GH Dg) (by unfold Func.isWrapper;first|(rw[Af Di];kernel_rfl)|(rw[Ad Di];exact⟨rfl,rfl⟩))
  (λos started H enc _ F=>by rw[OpenClaim.pre_eq_preRow];exact lifted os started H enc F)
theorem plain(f:FuncId)(fn:Func)(hf:Tryz.pinned.checked.prog.funcNamed "thicket/thicketlaw08.BodyTemplates"=some f)(Ë:Tryz.pinned.checked.prog.funcs[f]?=some fn):
  true=Tryz.pinned.checked.prog.looks []/\∀(j:Nat) t,fn.params[j]?=some t->Tryz.pinned.checked.prog.wantsStandIn t=false:=by
 obtain rfl:f=4:=(D7 (named.symm.trans hf)).symm;obtain rfl:fn=Tryz.f4:=(D7 (Tryz.func4.symm.trans Ë)).symm;refine⟨Dg,λj t ht=>?_⟩;rw[params] at ht;match j,ht with
 |0,ht=>cases ht;exact(Dg:Tryz.prog.wantsStandIn 27=false)
 |1,ht=>cases ht;exact(Dg:Tryz.prog.wantsStandIn 28=false)
 |2,ht=>cases ht;exact(Dg:Tryz.prog.wantsStandIn 31=false)
 |j+3,ht=>simp at ht
theorem card:Rows.BodyTemplatesCardSaid:=
 Claim7.holds_tied_plain_at .later [] _ _ _ _ said (λ_ h=>by cases h) Dg (λ_ h=>by cases h) bodyTemplates_row_tie rfl ⟨rfl,rfl⟩ Dg rfl plain (ir rfl)
end Go.Proofs.YtlcmmpgfafpoiaaGreatDoor.bodyTemplates
