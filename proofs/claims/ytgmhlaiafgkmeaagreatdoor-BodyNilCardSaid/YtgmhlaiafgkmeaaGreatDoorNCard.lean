/-
  The card of BodyNil: whatever the input, the law returns true, and the input reads as it did. Conditions: the row's list of variables alone.
-/
import Derived.Test.YtgmhlaiafgkmeaaGreatDoorN11
import Derived.Test.YtgmhlaiafgkmeaaGreatDoorN17
import Derived.Test.YtgmhlaiafgkmeaaGreatDoorN28
set_option linter.all false
namespace Go.Proofs.YtgmhlaiafgkmeaaGreatDoor.bodyNil
open Go Go.ChangeShapes Go.WideShapes Go.ChangeAt Go.RowKit Go.Am Go.Proofs.YtgmhlaiafgkmeaaGreatDoor.VX
theorem params:Tryz.f7.params=#[32,3]:=by kernel_rfl
theorem resultTypes:Tryz.f7.resultTypes=#[4]:=by kernel_rfl
abbrev tys:List Ty:=[Vj,.int .i64]
set_option maxRecDepth 10000 in
theorem contract(H:Type)(enc:TypeId×Value->H)(W:World)(base:Nat)(args:Array Value)(ds gs:List (DataW H))(before:List MemPlace)
  (NP:∀(j:Nat) t v,Tryz.f7.params[j]?=some t->args[j]?=some v->Value.okWide Tryz.prog W .any base t v)
  (hW:DataW.Whole enc Tryz.prog Tryz.f7.params.toList Rows.bodyNilSpec.vars false W args.toList ds gs before) (hL:laidMetH Tryz.prog Rows.bodyNilRow.laid W):
  Calls Tryz.prog 7 args W λe W'=>∃v,e= .returned v/\Rows.bodyNilSpec.post enc Tryz.prog Tryz.f7 false true false false W args v W':=by
 have hP:cx.P=Tryz.prog:=rfl;rw[<-hP] at NP hW⊢;refine NQ (C:=cx) (f:=7) (fn:=Tryz.f7) (s:=Rows.bodyNilSpec) (args:=args) (W:=W) (ds:=ds) (gs:=gs) (before:=before) (base:=base) mixed Sx Wb Rb (by decide) resultTypes Tryz.underlying4 (tys:=tys) ?_ ?_ ?_ O8 rfl ?_ (VY hL) ?_ ?_;rotate_right 2;.exact NP
 .exact hW
 .rw[params];rfl
 .intro i ty t h1 h2;rw[params] at h2;match i,h1,h2 with
  |0,h1,h2=>cases h1;cases h2;exact(show IM Tryz.prog (Vj) 32=true by kernel_rfl)
  |1,h1,h2=>cases h1;cases h2;exact(show IM Tryz.prog (.int .i64) 3=true by kernel_rfl)
  |i+2,h1,h2=>simp at h1
 .intro t ht;rw[params] at ht;simp only[AP,List.not_mem_nil,or_false] at ht;rcases ht with rfl|rfl<;>exact⟨by kernel_rfl,Pg (by kernel_rfl)⟩
 .intro ds hd;rw[params] at hd;match ds,hd with
  |[d0,d1],_=>rfl
theorem witness_row(os:Os){H:Type}(enc:TypeId×Value->H):
  (OpenSpec.ofChange Rows.bodyNilSpec).preRow enc Tryz.prog Tryz.f7 Rows.bodyNilRow.domain false Rows.bodyNilRow.laid ((Ia os).forCall (λ_ _=>0) ⟨#[],#[.agg #[.int .i64 0,.string ⟨#[]⟩,.bool false,.string ⟨#[]⟩,.bool false,.string ⟨#[]⟩,.bool false,.bool false,.slice none 0 0,.bool false,.string ⟨#[]⟩,.int .i32 0],.int .i64 0],[]⟩).memory #[.agg #[.int .i64 0,.string ⟨#[]⟩,.bool false,.string ⟨#[]⟩,.bool false,.string ⟨#[]⟩,.bool false,.bool false,.slice none 0 0,.bool false,.string ⟨#[]⟩,.int .i32 0],.int .i64 0]:=by
 have hw:(DataW.whole enc Tryz.prog ((Ia os).forCall (λ_ _=>0) ⟨#[],#[.agg #[.int .i64 0,.string ⟨#[]⟩,.bool false,.string ⟨#[]⟩,.bool false,.string ⟨#[]⟩,.bool false,.bool false,.slice none 0 0,.bool false,.string ⟨#[]⟩,.int .i32 0],.int .i64 0],[]⟩).memory Tryz.f7.params.toList Rows.bodyNilSpec.vars false (#[.agg #[.int .i64 0,.string ⟨#[]⟩,.bool false,.string ⟨#[]⟩,.bool false,.string ⟨#[]⟩,.bool false,.bool false,.slice none 0 0,.bool false,.string ⟨#[]⟩,.int .i32 0],.int .i64 0]:Array Value).toList 8).map (λx=>(x.1,x.2.1))=
  some ([.agg [.lit (.int .i64 0),.lit (.string []),.lit (.bool false),.lit (.string []),.lit (.bool false),.lit (.string []),.lit (.bool false),.lit (.bool false),.nil,.lit (.bool false),.lit (.string []),.lit (.int .i32 0)],.lit (.int .i64 0)],[]):=by kernel_rfl
 obtain⟨⟨x1,x2,x3⟩,hx,Rf⟩:=Option.map_eq_some_iff.1 hw;simp only[Gq] at Rf;obtain⟨rfl,rfl⟩:=Rf;exact OpenSpec.preRow_of_cond 8 hx (by kernel_rfl) (λk hk=>by cases hk) (by kernel_rfl) (Uf os _)
set_option maxRecDepth 100000 in
theorem lifted(os:Os)(started:os.Started)(H:Type)(enc:TypeId×Value->H)(F:Stop.Interp):
  ReturnsInHanded {} Tryz.checked os 7 .any ((OpenSpec.ofChange Rows.bodyNilSpec).preRow enc Tryz.prog Tryz.f7 Rows.bodyNilRow.domain false Rows.bodyNilRow.laid) (((OpenSpec.ofChange Rows.bodyNilSpec).at F).post enc Tryz.prog Tryz.f7 false true false false):=by
 refine returnsInHanded_of_row (C:=Tryz.checked) (s:=OpenSpec.ofChange Rows.bodyNilSpec) A5 started (by kernel_rfl) Tryz.func7
  (witness_row_atRef (enc:=enc) (C:=Tryz.checked) false (Ia os) #[.agg #[.int .i64 0,.string ⟨#[]⟩,.bool false,.string ⟨#[]⟩,.bool false,.string ⟨#[]⟩,.bool false,.bool false,.slice none 0 0,.bool false,.string ⟨#[]⟩,.int .i32 0],.int .i64 0] rfl (by kernel_rfl) (by kernel_rfl) (by kernel_rfl) (witness_row os enc)) ?_
 intro W base args ds gs before NP hW _ _ _ hL _ _;exact contract H enc W base args ds gs before NP hW hL
theorem gj:Rows.bodyNilRow.wf (OpenSpec.ofChange (OpenSpec.ofChange Rows.bodyNilSpec).bare)=true:=by kernel_rfl
theorem gl:Tryz.f7.params.all (Tryz.pinned.checked.prog.readableRec ·)=true:=by kernel_rfl
theorem gm:namedTie Tryz.pinned.checked.prog Rows.bodyNilRow.named (OpenSpec.ofChange Rows.bodyNilSpec).bare.vars=true:=by kernel_rfl
theorem gp:(Rows.bodyNilRow.inPlace==Tryz.pinned.checked.prog.inPlace 7)=true:=by kernel_rfl
theorem gq:(Rows.bodyNilRow.unfollowed==Tryz.pinned.checked.prog.unfollowed 7)=true:=by kernel_rfl
theorem gr:(Rows.bodyNilRow.recurses==Tryz.pinned.checked.prog.recurses 7)=true:=by kernel_rfl
theorem gu:(Rows.bodyNilRow.named==Tryz.pinned.checked.prog.varsNamed 7)=true:=by kernel_rfl
theorem gw:(Rows.bodyNilRow.maps==(Tryz.f7.params.toList++(OpenSpec.ofChange Rows.bodyNilSpec).bare.plain.varTypes Tryz.pinned.checked.prog).any (Tryz.pinned.checked.prog.mapsRec ·))=true:=by kernel_rfl
theorem gx:(Rows.bodyNilRow.ifaces==(Tryz.f7.params.toList++(OpenSpec.ofChange Rows.bodyNilSpec).bare.plain.varTypes Tryz.pinned.checked.prog).any (Tryz.pinned.checked.prog.ifacesRec ·))=true:=by kernel_rfl
theorem gy:(Rows.bodyNilRow.mapsOut==Tryz.pinned.checked.prog.mapsAmong Tryz.f7.resultTypes.toList)=true:=by kernel_rfl
theorem gz:(Rows.bodyNilRow.loops==(Tryz.f7.params.toList++(OpenSpec.ofChange Rows.bodyNilSpec).bare.plain.varTypes Tryz.pinned.checked.prog).any (Tryz.pinned.checked.prog.loopsFrom ·))=true:=by kernel_rfl
theorem g_:(Rows.bodyNilRow.wideKeys==(Tryz.f7.params.toList++(OpenSpec.ofChange Rows.bodyNilSpec).bare.plain.varTypes Tryz.pinned.checked.prog++Tryz.f7.resultTypes.toList).any (Tryz.pinned.checked.prog.wideKeysFrom ·))=true:=by kernel_rfl
theorem h_:(OpenSpec.ofChange Rows.bodyNilSpec).bare.vars.all (Tryz.pinned.checked.prog.varReadable ·)=true:=by kernel_rfl
theorem ic:Tryz.f7.resultTypes.all (λt=>Tryz.pinned.checked.prog.readableRec t&&decide (t<Tryz.pinned.checked.prog.types.size))=true:=by kernel_rfl
theorem ij:(Rows.bodyNilRow.ifacesOut==Tryz.f7.resultTypes.toList.any (Tryz.pinned.checked.prog.ifacesRec ·))=true:=by kernel_rfl
theorem ir:(Rows.bodyNilRow.loopsOut==Tryz.f7.resultTypes.toList.any (Tryz.pinned.checked.prog.loopsFrom ·))=true:=by kernel_rfl
theorem iu:Rc Tryz.pinned.checked.prog Tryz.f7 Rows.bodyNilRow=true:=by kernel_rfl
theorem iv:(Rows.bodyNilRow.pinned==Rows.bodyNilRow.pinnedBy)=true:=by kernel_rfl
theorem iw:(Rows.bodyNilRow.veiled==(Tryz.f7.params.toList++(OpenSpec.ofChange Rows.bodyNilSpec).bare.plain.varTypes Tryz.pinned.checked.prog++Tryz.f7.resultTypes.toList).any (Tryz.pinned.checked.prog.veiledRec ·))=true:=by kernel_rfl
theorem rO:Rows.bodyNilRow.veiledFits Tryz.pinned.checked.prog Tryz.f7.params.toList (Tryz.f7.params.toList++(OpenSpec.ofChange Rows.bodyNilSpec).bare.plain.varTypes Tryz.pinned.checked.prog++Tryz.f7.resultTypes.toList)=true:=by kernel_rfl
theorem closed:joinedFacts Tryz.pinned.checked.prog 7 Tryz.f7 (OpenSpec.ofChange Rows.bodyNilSpec).bare Rows.bodyNilRow=true:=NR gj Rb bb gl gm rfl bc rfl bd gp gq gr gu gw gx gy gz g_ h_ ic ij ir be rfl bg bh bj bk iu iv iw rO
theorem named:Tryz.pinned.checked.prog.funcNamed Rows.bodyNilRow.func=some 7:=by kernel_rfl
theorem said:Rows.BodyNilSaid:=
 OpenClaim.holds_of_cond 7 Tryz.f7 rfl rfl rfl rfl rfl rfl rfl ⟨rfl,rfl,rfl,rfl,rfl⟩ rfl rfl rfl rfl rfl named Tryz.func7 closed
  (Pg (by kernel_rfl)) (by unfold Func.isWrapper;first|(rw[if_pos (by decide+kernel)];kernel_rfl)|(rw[if_neg (by decide+kernel)];exact⟨rfl,rfl⟩))
  (λos started H enc _ F=>by rw[OpenClaim.pre_eq_preRow];exact lifted os started H enc F)
theorem plain(f:FuncId)(fn:Func)(hf:Tryz.pinned.checked.prog.funcNamed "thicket/thicketlaw08.BodyNil"=some f)(VM:Tryz.pinned.checked.prog.funcs[f]?=some fn):
  true=Tryz.pinned.checked.prog.looks []/\∀(j:Nat) t,fn.params[j]?=some t->Tryz.pinned.checked.prog.wantsStandIn t=false:=by
 obtain rfl:f=7:=(D7 (named.symm.trans hf)).symm;obtain rfl:fn=Tryz.f7:=(D7 (Tryz.func7.symm.trans VM)).symm;refine⟨by kernel_rfl,λj t ht=>?_⟩;rw[params] at ht;match j,ht with
 |0,ht=>cases ht;exact(show Tryz.prog.wantsStandIn 32=false by kernel_rfl)
 |1,ht=>cases ht;exact(show Tryz.prog.wantsStandIn 3=false by kernel_rfl)
 |j+2,ht=>simp at ht
theorem card:Rows.BodyNilCardSaid:=
 Claim7.holds_tied_plain_at .later [] _ _ _ _ said (λ_ h=>by cases h) (by kernel_rfl) (λ_ h=>by cases h) bodyNil_row_tie rfl ⟨rfl,rfl⟩ (by kernel_rfl) rfl plain (Sy rfl)
end Go.Proofs.YtgmhlaiafgkmeaaGreatDoor.bodyNil
