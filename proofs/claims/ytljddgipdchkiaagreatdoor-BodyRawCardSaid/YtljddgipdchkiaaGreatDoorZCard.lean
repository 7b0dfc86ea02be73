/-
  The card of BodyRaw: whatever the input, the law returns true, and the input reads as it did. Conditions: the row's list of variables alone.
-/
import Derived.Test.YtljddgipdchkiaaGreatDoorZ10
import Derived.Test.YtljddgipdchkiaaGreatDoorZ16
import Derived.Test.YtljddgipdchkiaaGreatDoorZ31
set_option linter.all false
namespace Go.Proofs.YtljddgipdchkiaaGreatDoor.bodyRaw
open Go Go.ChangeShapes Go.WideShapes Go.ChangeAt Go.RowKit Go.Am Go.Proofs.YtljddgipdchkiaaGreatDoor.tg
theorem params:Tryz.f4.params=#[27,28,31]:=AH
theorem resultTypes:Tryz.f4.resultTypes=#[4]:=AH
abbrev tys:List Ty:=[dK,.sl tOp,qb]
set_option maxRecDepth 10000 in
theorem contract(H:Type)(enc:TypeId×Value->H)(W:World)(base:Nat)(args:Array Value)(ds gs:List (DataW H))(before:List MemPlace)
  (QZ:∀(j:Nat) t v,Tryz.f4.params[j]?=some t->args[j]?=some v->Value.okWide Tryz.prog W .any base t v)
  (hW:DataW.Whole enc Tryz.prog Tryz.f4.params.toList Rows.bodyRawSpec.vars false W args.toList ds gs before) (b:laidMetH Tryz.prog Rows.bodyRawRow.laid W):
  Calls Tryz.prog 4 args W λe W'=>∃v,e= .returned v/\Rows.bodyRawSpec.post enc Tryz.prog Tryz.f4 false true false false W args v W':=by
 have a:cx.P=Tryz.prog:=rfl;rw[<-a] at QZ hW⊢;refine aF (C:=cx) (f:=4) (fn:=Tryz.f4) (s:=Rows.bodyRawSpec) (args:=args) (W:=W) (ds:=ds) (gs:=gs) (before:=before) (base:=base) mixed xZ ug qD A5 resultTypes Tryz.underlying4 (tys:=tys) ?_ ?_ ?_ đ rfl ?_ (th b) ?_ ?_;rotate_right 2;.exact QZ
 .exact hW
 .rw[params];rfl
 .intro i ty t h1 h2;rw[params] at h2;match i,h1,h2 with
  |0,h1,h2=>cases h1;cases h2;exact(AH:Qg Tryz.prog (dK) 27=true)
  |1,h1,h2=>cases h1;cases h2;exact(AH:Qg Tryz.prog (.sl tOp) 28=true)
  |2,h1,h2=>cases h1;cases h2;exact(AH:Qg Tryz.prog (qb) 31=true)
  |i+3,h1,h2=>simp at h1
 .intro t ht;rw[params] at ht;simp only[AS,SK,aK8] at ht;rcases ht with rfl|rfl|rfl<;>exact⟨AH,J0 AH⟩
 .intro ds hd;rw[params] at hd;match ds,hd with
  |[g,d,c],_=>rfl
theorem witness_row(os:Os){H:Type}(enc:TypeId×Value->H):
  (OpenSpec.ofChange Rows.bodyRawSpec).preRow enc Tryz.prog Tryz.f4 Rows.bodyRawRow.domain false Rows.bodyRawRow.laid ((PY os).forCall (λ_ _=>0) ⟨#[],#[.agg #[.bool false,.int .i64 0,.string ⟨#[]⟩,.slice none 0 0,.bool false,.bool false],.slice none 0 0,.agg #[.int .i64 0,.string ⟨#[]⟩,.bool false,.string ⟨#[]⟩,.bool false,.string ⟨#[]⟩,.bool false,.bool false,.slice none 0 0,.bool false,.string ⟨#[]⟩,.int .i32 0]],[]⟩).memory #[.agg #[.bool false,.int .i64 0,.string ⟨#[]⟩,.slice none 0 0,.bool false,.bool false],.slice none 0 0,.agg #[.int .i64 0,.string ⟨#[]⟩,.bool false,.string ⟨#[]⟩,.bool false,.string ⟨#[]⟩,.bool false,.bool false,.slice none 0 0,.bool false,.string ⟨#[]⟩,.int .i32 0]]:=by
 have hw:(DataW.whole enc Tryz.prog ((PY os).forCall (λ_ _=>0) ⟨#[],#[.agg #[.bool false,.int .i64 0,.string ⟨#[]⟩,.slice none 0 0,.bool false,.bool false],.slice none 0 0,.agg #[.int .i64 0,.string ⟨#[]⟩,.bool false,.string ⟨#[]⟩,.bool false,.string ⟨#[]⟩,.bool false,.bool false,.slice none 0 0,.bool false,.string ⟨#[]⟩,.int .i32 0]],[]⟩).memory Tryz.f4.params.toList Rows.bodyRawSpec.vars false (#[.agg #[.bool false,.int .i64 0,.string ⟨#[]⟩,.slice none 0 0,.bool false,.bool false],.slice none 0 0,.agg #[.int .i64 0,.string ⟨#[]⟩,.bool false,.string ⟨#[]⟩,.bool false,.string ⟨#[]⟩,.bool false,.bool false,.slice none 0 0,.bool false,.string ⟨#[]⟩,.int .i32 0]]:Array Value).toList 8).map (λx=>(x.1,x.2.1))=
  some ([.agg [.lit (.bool false),.agg [.lit (.int .i64 0),.lit (.string []),.nil,.lit (.bool false),.lit (.bool false)]],.nil,.agg [.lit (.int .i64 0),.lit (.string []),.lit (.bool false),.lit (.string []),.lit (.bool false),.lit (.string []),.lit (.bool false),.lit (.bool false),.nil,.lit (.bool false),.lit (.string []),.lit (.int .i32 0)]],[]):=AH
 obtain⟨⟨c,b,a⟩,hx,OR⟩:=MA.1 hw;simp only[Ii] at OR;obtain⟨rfl,rfl⟩:=OR;exact OpenSpec.preRow_of_cond 8 hx AH (λk hk=>by cases hk) AH (gz os _)
set_option maxRecDepth 100000 in
theorem lifted(os:Os)(started:os.Started)(H:Type)(enc:TypeId×Value->H)(F:Stop.Interp):
  ReturnsInHanded {} Tryz.checked os 4 .any ((OpenSpec.ofChange Rows.bodyRawSpec).preRow enc Tryz.prog Tryz.f4 Rows.bodyRawRow.domain false Rows.bodyRawRow.laid) (((OpenSpec.ofChange Rows.bodyRawSpec).at F).post enc Tryz.prog Tryz.f4 false true false false):=by
 refine returnsInHanded_of_row (C:=Tryz.checked) (s:=OpenSpec.ofChange Rows.bodyRawSpec) Bw started AH Tryz.func4
  (witness_row_atRef (enc:=enc) (C:=Tryz.checked) false (PY os) #[.agg #[.bool false,.int .i64 0,.string ⟨#[]⟩,.slice none 0 0,.bool false,.bool false],.slice none 0 0,.agg #[.int .i64 0,.string ⟨#[]⟩,.bool false,.string ⟨#[]⟩,.bool false,.string ⟨#[]⟩,.bool false,.bool false,.slice none 0 0,.bool false,.string ⟨#[]⟩,.int .i32 0]] rfl AH AH AH (witness_row os enc)) ?_
 intro W base args ds gs before QZ hW _ _ _ a _ _;exact contract H enc W base args ds gs before QZ hW a
theorem x0:(Rows.bodyRawRow.inPlace==Tryz.pinned.checked.prog.inPlace 4)=true:=AH
theorem x1:(Rows.bodyRawRow.unfollowed==Tryz.pinned.checked.prog.unfollowed 4)=true:=AH
theorem x2:(Rows.bodyRawRow.recurses==Tryz.pinned.checked.prog.recurses 4)=true:=AH
theorem x3:(Rows.bodyRawRow.named==Tryz.pinned.checked.prog.varsNamed 4)=true:=AH
theorem closed:joinedFacts Tryz.pinned.checked.prog 4 Tryz.f4 (OpenSpec.ofChange Rows.bodyRawSpec).bare Rows.bodyRawRow=true:=aG AH qD gA3 AH AH rfl gA7 rfl gA9 x0 x1 x2 x3 AH AH AH AH AH AH AH AH AH gE1 rfl gE3 gE4 gE5 gE6 AH AH AH AH
theorem named:Tryz.pinned.checked.prog.funcNamed Rows.bodyRawRow.func=some 4:=AH
theorem said:Rows.BodyRawSaid:=
 OpenClaim.holds_of_cond 4 Tryz.f4 rfl rfl rfl rfl rfl rfl rfl ⟨rfl,rfl,rfl,rfl,rfl⟩ rfl rfl rfl rfl rfl named Tryz.func4 closed
  (J0 AH) (by unfold Func.isWrapper;first|(rw[Ae GB];kernel_rfl)|(rw[Ac GB];exact⟨rfl,rfl⟩))
  (λos started H enc _ F=>by rw[OpenClaim.pre_eq_preRow];exact lifted os started H enc F)
theorem plain(f:FuncId)(fn:Func)(hf:Tryz.pinned.checked.prog.funcNamed "thicket/thicketlaw08.BodyRaw"=some f)(sk:Tryz.pinned.checked.prog.funcs[f]?=some fn):
  true=Tryz.pinned.checked.prog.looks []/\∀(j:Nat) t,fn.params[j]?=some t->Tryz.pinned.checked.prog.wantsStandIn t=false:=by
 obtain rfl:f=4:=(D3 (named.symm.trans hf)).symm;obtain rfl:fn=Tryz.f4:=(D3 (Tryz.func4.symm.trans sk)).symm;refine⟨AH,λj t ht=>?_⟩;rw[params] at ht;match j,ht with
 |0,ht=>cases ht;exact(AH:Tryz.prog.wantsStandIn 27=false)
 |1,ht=>cases ht;exact(AH:Tryz.prog.wantsStandIn 28=false)
 |2,ht=>cases ht;exact(AH:Tryz.prog.wantsStandIn 31=false)
 |j+3,ht=>simp at ht
theorem card:Rows.BodyRawCardSaid:=
 Claim7.holds_tied_plain_at .later [] _ _ _ _ said (λ_ h=>by cases h) AH (λ_ h=>by cases h) bodyRaw_row_tie rfl ⟨rfl,rfl⟩ AH rfl plain (yA rfl)
end Go.Proofs.YtljddgipdchkiaaGreatDoor.bodyRaw
