/- Lemmas -/
import Derived.Test.YtjboelmdplaenaaGreatDoorQ8
import Derived.Test.YtjboelmdplaenaaGreatDoorQ10
import Derived.Test.YtjboelmdplaenaaGreatDoorCards
import Derived.Test.YtjboelmdplaenaaGreatDoorTie
import Derived.ProofKit
import Derived.OpenShut
import Derived.Deep.DeepWitnessRowRef
import Derived.Lib.LaidU8
set_option linter.unusedVariables false
set_option linter.unusedSimpArgs false
namespace Go.Proofs.YtjboelmdplaenaaGreatDoor.Laid
open Go Go.ChangeShapes Go.WideShapes Go.ChangeAt Go.RowKit Go.Am
theorem own:ownKnob Tryz.prog.godebug=none:=by kernel_rfl
theorem laidOut:laidOutB Tryz.prog=true:=by kernel_rfl
theorem mixed:Tryz.prog.follows .mixedOrders=true:=by kernel_rfl
abbrev laid:List (String×DataW Unit):=[("math/bits.deBruijn32tab",Rows.laid_math_bits_deBruijn32tab),("math/bits.deBruijn64tab",Rows.laid_math_bits_deBruijn64tab),("internal/strconv.uint64pow10",Rows.laid_internal_strconv_uint64pow10)]
theorem glob_flat:∀g cs,cx.glob g=some cs→cs.all AVal.flat=true:=by intro g cs h;exact absurd (show(none:Option (List AVal))=some cs from h) (by simp)
theorem glob_ok {W:World} (h:laidMetH Tryz.prog laid W):∀g cs,cx.glob g=some cs→VRelM (memGh W) cs g 0:=by intro g cs hg;exact absurd (show(none:Option (List AVal))=some cs from hg) (by simp)
noncomputable def laidWorld (os:Os):World:=
 let w0:=World.settled Tryz.prog os
 let put (h:Array Obj) (g:Nat) (cs:Array Value):Array Obj:=h.modify g λ
  | .cells _ t frozen=> .cells cs t frozen
  |o=>o
 let h3:=put w0.heap 1 #[.int .u64 1,.int .u64 10,.int .u64 100,.int .u64 1000,.int .u64 10000,.int .u64 100000,.int .u64 1000000,.int .u64 10000000,.int .u64 100000000,.int .u64 1000000000,.int .u64 10000000000,.int .u64 100000000000,.int .u64 1000000000000,.int .u64 10000000000000,.int .u64 100000000000000,.int .u64 1000000000000000,.int .u64 10000000000000000,.int .u64 100000000000000000,.int .u64 1000000000000000000,.int .u64 10000000000000000000]
 let h4:=put h3 2 #[.int .u8 0,.int .u8 1,.int .u8 28,.int .u8 2,.int .u8 29,.int .u8 14,.int .u8 24,.int .u8 3,.int .u8 30,.int .u8 22,.int .u8 20,.int .u8 15,.int .u8 25,.int .u8 17,.int .u8 4,.int .u8 8,.int .u8 31,.int .u8 27,.int .u8 13,.int .u8 23,.int .u8 21,.int .u8 19,.int .u8 16,.int .u8 7,.int .u8 26,.int .u8 12,.int .u8 18,.int .u8 6,.int .u8 11,.int .u8 5,.int .u8 10,.int .u8 9]
 let h5:=put h4 3 #[.int .u8 0,.int .u8 1,.int .u8 56,.int .u8 2,.int .u8 57,.int .u8 49,.int .u8 28,.int .u8 3,.int .u8 61,.int .u8 58,.int .u8 42,.int .u8 50,.int .u8 38,.int .u8 29,.int .u8 17,.int .u8 4,.int .u8 62,.int .u8 47,.int .u8 59,.int .u8 36,.int .u8 45,.int .u8 43,.int .u8 51,.int .u8 22,.int .u8 53,.int .u8 39,.int .u8 33,.int .u8 30,.int .u8 24,.int .u8 18,.int .u8 12,.int .u8 5,.int .u8 63,.int .u8 55,.int .u8 48,.int .u8 27,.int .u8 60,.int .u8 41,.int .u8 37,.int .u8 16,.int .u8 46,.int .u8 35,.int .u8 44,.int .u8 21,.int .u8 52,.int .u8 32,.int .u8 23,.int .u8 11,.int .u8 54,.int .u8 26,.int .u8 40,.int .u8 15,.int .u8 34,.int .u8 20,.int .u8 31,.int .u8 10,.int .u8 25,.int .u8 14,.int .u8 19,.int .u8 9,.int .u8 13,.int .u8 8,.int .u8 7,.int .u8 6]
 {w0 with heap:=h5}
theorem laid_met (os:Os) (args:Array Value):laidMet Tryz.prog laid ((laidWorld os).forCall (λ_ _=>0) ⟨#[],args,[]⟩).memory:=
 laidMet_of_run' 8 (by kernel_rfl) (by kernel_rfl)
theorem gA3:mapsRowed Tryz.pinned.checked.prog=true:=by kernel_rfl
theorem gA7:(Tryz.pinned.checked.prog.stops==[])=true:=by kernel_rfl
theorem gA9:(Tryz.pinned.checked.prog.stopKnobs==[])=true:=by kernel_rfl
theorem gE1:(Rows.topCopiedRow.plainKeys==Tryz.pinned.checked.prog.plainKeys)=true:=by kernel_rfl
theorem gE3:Tryz.pinned.checked.prog.stopsHeard=true:=by kernel_rfl
theorem gE4:Tryz.pinned.checked.prog.mayEnter=true:=by kernel_rfl
theorem gE5:(Rows.topCopiedRow.lifted==Tryz.pinned.checked.prog.liftsFinal)=true:=by kernel_rfl
theorem gE6:(Tryz.pinned.checked.prog.make==some Rows.topCopiedRow.make)=true:=by kernel_rfl
def kindsOk (P:Program) (fn:Func) (c:OpenClaim):Bool:=c.kinds==(if c.domain.isEmpty then[] else fn.params.toList.map λt=>match P.underlying t with|some (.int k)=>some k|_=>none)
theorem joined_parts {P:Program} {f:FuncId} {fn:Func} {s:ChangeSpec} {c:OpenClaim}
  (a1:c.wf (OpenSpec.ofChange s)=true)
  (a2:laidOutB P=true)
  (a3:mapsRowed P=true)
  (a4:fn.params.all (P.readableRec ·)=true)
  (a5:namedTie P c.named s.vars=true)
  (a6:(c.stops==[])=true)
  (a7:(P.stops==[])=true)
  (a8:(c.knobs==[])=true)
  (a9:(P.stopKnobs==[])=true)
  (b1:(c.inPlace==P.inPlace f)=true)
  (b2:(c.unfollowed==P.unfollowed f)=true)
  (b3:(c.recurses==P.recurses f)=true)
  (b4:(c.named==P.varsNamed f)=true)
  (c1:(c.maps==(fn.params.toList++s.plain.varTypes P).any (P.mapsRec ·))=true)
  (c2:(c.ifaces==(fn.params.toList++s.plain.varTypes P).any (P.ifacesRec ·))=true)
  (c3:(c.mapsOut==P.mapsAmong fn.resultTypes.toList)=true)
  (c4:(c.loops==(fn.params.toList++s.plain.varTypes P).any (P.loopsFrom ·))=true)
  (c5:(c.wideKeys==(fn.params.toList++s.plain.varTypes P++fn.resultTypes.toList).any (P.wideKeysFrom ·))=true)
  (d1:s.vars.all (P.varReadable ·)=true)
  (d2:fn.resultTypes.all (λt=>P.readableRec t&&decide (t<P.types.size))=true)
  (d3:(c.ifacesOut==fn.resultTypes.toList.any (P.ifacesRec ·))=true)
  (d4:(c.loopsOut==fn.resultTypes.toList.any (P.loopsFrom ·))=true)
  (e1:(c.plainKeys==P.plainKeys)=true)
  (e2:c.shortTexts.isNone=true)
  (e3:P.stopsHeard=true)
  (e4:P.mayEnter=true)
  (e5:(c.lifted==P.liftsFinal)=true)
  (e6:(P.make==some c.make)=true)
  (d5:kindsOk P fn c=true)
  (d6:(c.pinned==c.pinnedBy)=true)
  (f1:(c.veiled==(fn.params.toList++s.plain.varTypes P++fn.resultTypes.toList).any (P.veiledRec ·))=true)
  (f2:c.veiledFits P fn.params.toList (fn.params.toList++s.plain.varTypes P++fn.resultTypes.toList)=true):joinedFacts P f fn s c=true:=by
 unfold joinedFacts;simp only[Bool.and_eq_true];simp only[a1,a2,a3,a4,a5,a6,a7,a8,a9,b1,b2,b3,b4,c1,c2,c3,c4,c5,d1,d2,d3,d4,e1,e2,e3,e4,e5,e6,d6,f1,f2,and_self,and_true,true_and];exact d5
end Go.Proofs.YtjboelmdplaenaaGreatDoor.Laid
