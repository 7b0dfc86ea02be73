/-
  The card of BodyApplies: whatever the input, the law returns true, and the input reads as it did. Conditions: the row's list of variables alone.
-/
import Derived.Test.YtemolpggcmbieaaGreatDoorZ10
import Derived.Test.YtemolpggcmbieaaGreatDoorZ17
import Derived.Test.YtemolpggcmbieaaGreatDoorZ34
set_option linter.all false
namespace Go.Proofs.YtemolpggcmbieaaGreatDoor.bodyApplies
open Go Go.ChangeShapes Go.WideShapes Go.ChangeAt Go.RowKit Go.Am Go.Proofs.YtemolpggcmbieaaGreatDoor.yy
theorem params:Tryz.f3.params=#[27,28,3,31]:=AF
theorem resultTypes:Tryz.f3.resultTypes=#[4]:=AF
abbrev tys:List Ty:=[dZ,.sl tOp,.int .i64,we]
set_option maxRecDepth 10000 in
theorem contract(H:Type)(enc:TypeId×Value->H)(W:World)(base:Nat)(args:Array Value)(ds gs:List (DataW H))(before:List MemPlace)
  (Qk:∀(j:Nat) t v,Tryz.f3.params[j]?=some t->args[j]?=some v->Value.okWide Tryz.prog W .any base t v)
  (hW:DataW.Whole enc Tryz.prog Tryz.f3.params.toList Rows.bodyAppliesSpec.vars false W args.toList ds gs before) (b:laidMetH Tryz.prog Rows.bodyAppliesRow.laid W):
  Calls Tryz.prog 3 args W λe W'=>∃v,e= .returned v/\Rows.bodyAppliesSpec.post enc Tryz.prog Tryz.f3 false true false false W args v W':=by
 have a:cx.P=Tryz.prog:=rfl;rw[<-a] at Qk hW⊢;refine aV (C:=cx) (f:=3) (fn:=Tryz.f3) (s:=Rows.bodyAppliesSpec) (args:=args) (W:=W) (ds:=ds) (gs:=gs) (before:=before) (base:=base) mixed aq zr rW AI resultTypes Tryz.underlying4 (tys:=tys) ?_ ?_ ?_ lC rfl ?_ (yz b) ?_ ?_;rotate_right 2;.exact Qk
 .exact hW
 .rw[params];rfl
 .intro i ty t h1 h2;rw[params] at h2;match i,h1,h2 with
  |0,h1,h2=>cases h1;cases h2;exact(AF:Pc Tryz.prog (dZ) 27=true)
  |1,h1,h2=>cases h1;cases h2;exact(AF:Pc Tryz.prog (.sl tOp) 28=true)
  |2,h1,h2=>cases h1;cases h2;exact(AF:Pc Tryz.prog (.int .i64) 3=true)
  |3,h1,h2=>cases h1;cases h2;exact(AF:Pc Tryz.prog (we) 31=true)
  |i+4,h1,h2=>simp at h1
 .intro t ht;rw[params] at ht;simp only[AE,MW,wz] at ht;rcases ht with rfl|rfl|rfl|rfl<;>exact⟨AF,HE AF⟩
 .intro ds hd;rw[params] at hd;match ds,hd with
  |[h,g,d,c],_=>rfl
theorem witness_row(os:Os){H:Type}(enc:TypeId×Value->H):
  (OpenSpec.ofChange Rows.bodyAppliesSpec).preRow enc Tryz.prog Tryz.f3 Rows.bodyAppliesRow.domain false Rows.bodyAppliesRow.laid ((P3 os).forCall (λ_ _=>0) ⟨#[],#[.agg #[.bool false,.int .i64 0,.string ⟨#[]⟩,.slice none 0 0,.bool false,.bool false],.slice none 0 0,.int .i64 0,.agg #[.int .i64 0,.string ⟨#[]⟩,.bool false,.string ⟨#[]⟩,.bool false,.string ⟨#[]⟩,.bool false,.bool false,.slice none 0 0,.bool false,.string ⟨#[]⟩,.int .i32 0]],[]⟩).memory #[.agg #[.bool false,.int .i64 0,.string ⟨#[]⟩,.slice none 0 0,.bool false,.bool false],.slice none 0 0,.int .i64 0,.agg #[.int .i64 0,.string ⟨#[]⟩,.bool false,.string ⟨#[]⟩,.bool false,.string ⟨#[]⟩,.bool false,.bool false,.slice none 0 0,.bool false,.string ⟨#[]⟩,.int .i32 0]]:=by
 have hw:(DataW.whole enc Tryz.prog ((P3 os).forCall (λ_ _=>0) ⟨#[],#[.agg #[.bool false,.int .i64 0,.string ⟨#[]⟩,.slice none 0 0,.bool false,.bool false],.slice none 0 0,.int .i64 0,.agg #[.int .i64 0,.string ⟨#[]⟩,.bool false,.string ⟨#[]⟩,.bool false,.string ⟨#[]⟩,.bool false,.bool false,.slice none 0 0,.bool false,.string ⟨#[]⟩,.int .i32 0]],[]⟩).memory Tryz.f3.params.toList Rows.bodyAppliesSpec.vars false (#[.agg #[.bool false,.int .i64 0,.string ⟨#[]⟩,.slice none 0 0,.bool false,.bool false],.slice none 0 0,.int .i64 0,.agg #[.int .i64 0,.string ⟨#[]⟩,.bool false,.string ⟨#[]⟩,.bool false,.string ⟨#[]⟩,.bool false,.bool false,.slice none 0 0,.bool false,.string ⟨#[]⟩,.int .i32 0]]:Array Value).toList 8).map (λx=>(x.1,x.2.1))=
  some ([.agg [.lit (.bool false),.agg [.lit (.int .i64 0),.lit (.string []),.nil,.lit (.bool false),.lit (.bool false)]],.nil,.lit (.int .i64 0),.agg [.lit (.int .i64 0),.lit (.string []),.lit (.bool false),.lit (.string []),.lit (.bool false),.lit (.string []),.lit (.bool false),.lit (.bool false),.nil,.lit (.bool false),.lit (.string []),.lit (.int .i32 0)]],[]):=AF
 obtain⟨⟨c,b,a⟩,hx,Tl⟩:=IL.1 hw;simp only[MX] at Tl;obtain⟨rfl,rfl⟩:=Tl;exact OpenSpec.preRow_of_cond 8 hx AF (λk hk=>by cases hk) AF (me os _)
set_option maxRecDepth 100000 in
theorem lifted(os:Os)(started:os.Started)(H:Type)(enc:TypeId×Value->H)(F:Stop.Interp):
  ReturnsInHanded {} Tryz.checked os 3 .any ((OpenSpec.ofChange Rows.bodyAppliesSpec).preRow enc Tryz.prog Tryz.f3 Rows.bodyAppliesRow.domain false Rows.bodyAppliesRow.laid) (((OpenSpec.ofChange Rows.bodyAppliesSpec).at F).post enc Tryz.prog Tryz.f3 false true false false):=by
 refine returnsInHanded_of_row (C:=Tryz.checked) (s:=OpenSpec.ofChange Rows.bodyAppliesSpec) BM started AF Tryz.func3
  (witness_row_atRef (enc:=enc) (C:=Tryz.checked) false (P3 os) #[.agg #[.bool false,.int .i64 0,.string ⟨#[]⟩,.slice none 0 0,.bool false,.bool false],.slice none 0 0,.int .i64 0,.agg #[.int .i64 0,.string ⟨#[]⟩,.bool false,.string ⟨#[]⟩,.bool false,.string ⟨#[]⟩,.bool false,.bool false,.slice none 0 0,.bool false,.string ⟨#[]⟩,.int .i32 0]] rfl AF AF AF (witness_row os enc)) ?_
 intro W base args ds gs before Qk hW _ _ _ a _ _;exact contract H enc W base args ds gs before Qk hW a
theorem closed:joinedFacts Tryz.pinned.checked.prog 3 Tryz.f3 (OpenSpec.ofChange Rows.bodyAppliesSpec).bare Rows.bodyAppliesRow=true:=aW AF rW gA3 AF AF rfl gA7 rfl gA9 AF AF AF AF AF AF AF AF AF AF AF AF AF gE1 rfl gE3 gE4 gE5 gE6 AF AF AF AF
theorem named:Tryz.pinned.checked.prog.funcNamed Rows.bodyAppliesRow.func=some 3:=AF
theorem said:Rows.BodyAppliesSaid:=
 OpenClaim.holds_of_cond 3 Tryz.f3 rfl rfl rfl rfl rfl rfl rfl ⟨rfl,rfl,rfl,rfl,rfl⟩ rfl rfl rfl rfl rfl named Tryz.func3 closed
  (HE AF) (by unfold Func.isWrapper;first|(rw[Af D8];kernel_rfl)|(rw[Ag D8];exact⟨rfl,rfl⟩))
  (λos started H enc _ F=>by rw[OpenClaim.pre_eq_preRow];exact lifted os started H enc F)
theorem plain(f:FuncId)(fn:Func)(hf:Tryz.pinned.checked.prog.funcNamed "thicket/thicketlaw08.BodyApplies"=some f)(yj:Tryz.pinned.checked.prog.funcs[f]?=some fn):
  true=Tryz.pinned.checked.prog.looks []/\∀(j:Nat) t,fn.params[j]?=some t->Tryz.pinned.checked.prog.wantsStandIn t=false:=by
 obtain rfl:f=3:=(ED (named.symm.trans hf)).symm;obtain rfl:fn=Tryz.f3:=(ED (Tryz.func3.symm.trans yj)).symm;refine⟨AF,λj t ht=>?_⟩;rw[params] at ht;match j,ht with
 |0,ht=>cases ht;exact(AF:Tryz.prog.wantsStandIn 27=false)
 |1,ht=>cases ht;exact(AF:Tryz.prog.wantsStandIn 28=false)
 |2,ht=>cases ht;exact(AF:Tryz.prog.wantsStandIn 3=false)
 |3,ht=>cases ht;exact(AF:Tryz.prog.wantsStandIn 31=false)
 |j+4,ht=>simp at ht
theorem card:Rows.BodyAppliesCardSaid:=
 Claim7.holds_tied_plain_at .later [] _ _ _ _ said (λ_ h=>by cases h) AF (λ_ h=>by cases h) bodyApplies_row_tie rfl ⟨rfl,rfl⟩ AF rfl plain (au rfl)
end Go.Proofs.YtemolpggcmbieaaGreatDoor.bodyApplies
