/- Lemmas -/
import Derived.Test.YtffmdapalbecoaaGreatDoorO7
import Derived.Test.YtffmdapalbecoaaGreatDoorO9
import Derived.Test.YtffmdapalbecoaaGreatDoorCards
import Derived.Test.YtffmdapalbecoaaGreatDoorTie
import Derived.ProofKit
import Derived.OpenShut
import Derived.Deep.DeepWitnessRowRef
import Derived.Lib.LaidU8
set_option linter.all false
section
namespace Go.Proofs.YtffmdapalbecoaaGreatDoor.š
open Go Go.ChangeShapes Go.WideShapes Go.ChangeAt Go.RowKit Go.Am
def Bu:ownKnob Tryz.prog.godebug=none:=C8
def fw:laidOutB Tryz.prog=true:=C8
def mixed:Tryz.prog.follows .mixedOrders=true:=C8
def aN7:Tryz.prog.globalNamed "strings.asciiSpace"=some 0:=by kernel_rfl
def zq:(Tryz.prog.globals[0]?).map (·.type)=some 355:=C8
def zr:Tryz.prog.cellsOf 355=256:=C8
def aEV:Tryz.prog.cellsOf 5=1:=C8
abbrev laid:List (String×DataW Unit):=[("math/bits.deBruijn32tab",Rows.laid_math_bits_deBruijn32tab),("math/bits.deBruijn64tab",Rows.laid_math_bits_deBruijn64tab),("internal/strconv.uint64pow10",Rows.laid_internal_strconv_uint64pow10),("unicode.White_Space",Rows.laid_unicode_White_Space),("strings.asciiSpace",Rows.laid_strings_asciiSpace)]
def xL:(Rows.laid_strings_asciiSpace:DataW Unit)=Lib.tabData .u8 Oq:=C8
def qn:∀g cs,cx.HO g=some cs->cs.all Aa.Nv=true:=by
 intro g cs h;change rF g=some cs at h;unfold rF at h;split at h;.cases h;decide+kernel
 .cases h
def Ţ{W:World}(h:laidMetH Tryz.prog laid W):∀g cs,cx.HO g=some cs->Df (GW W) cs g 0:=by
 intro g cs hg;change rF g=some cs at hg;unfold rF at hg;split at hg
 .cases hg;obtain⟨g,t,cs,fuel,p,h1,h2,b,a⟩:=Lib.laidMet.reads (n:= "strings.asciiSpace") (d:=Rows.laid_strings_asciiSpace) h (.tail _ (.tail _ (.tail _ (.tail _ (.head _)))));obtain rfl:=EA (aN7.symm.trans h1);obtain rfl:=EA (zq.symm.trans h2);have hc:=Lib.cells_of_tab (zs:=Oq) Tryz.underlying355 Tryz.underlying5 aEV zr (xL▸a);refine Df.HD λj y hj=>?_;have Km:=World.var?_cell h1 b j;rw[<-aH1,hc] at Km;unfold HF at hj;rw[Cc] at hj Km;cases hz:Oq[j]? with
  |none=>rw[hz] at hj;cases hj
  |some z=>rw[hz] at hj Km;cases hj;refine⟨.int .u8 z,?_,rfl⟩;show(W.cell? ⟨0,0+j,none⟩).filter (·.oneCell')=_;rw[B2,Km];rfl
 .cases hg
noncomputable def Rl(os:Os):World:=
 let N:=(World.settled Tryz.prog os).heap.size
 let w0:=World.holding Tryz.prog os ⟨#[
  .cells #[.int .u16 9,.int .u16 13,.int .u16 1,.int .u16 32,.int .u16 133,.int .u16 101,.int .u16 160,.int .u16 5760,.int .u16 5600,.int .u16 8192,.int .u16 8202,.int .u16 1,.int .u16 8232,.int .u16 8233,.int .u16 1,.int .u16 8239,.int .u16 8287,.int .u16 48,.int .u16 12288,.int .u16 12288,.int .u16 1] 393,
  .cells #[.slice (some ⟨N,0,none⟩) 7 7,.slice none 0 0,.int .i64 2] 390],#[],[]⟩
 let put (h:Array Obj) (g:Nat) (cs:Array Value):Array Obj:=h.modify g λ
  | .cells _ t frozen=> .cells cs t frozen
  |o=>o
 let h1:=put w0.heap 0 (Oq.map λz=>Value.int .u8 z).toArray
 let h2:=put h1 2 #[.pointer (some ⟨N+1,0,none⟩)]
 let c:=put h2 3 #[.int .u64 1,.int .u64 10,.int .u64 100,.int .u64 1000,.int .u64 10000,.int .u64 100000,.int .u64 1000000,.int .u64 10000000,.int .u64 100000000,.int .u64 1000000000,.int .u64 10000000000,.int .u64 100000000000,.int .u64 1000000000000,.int .u64 10000000000000,.int .u64 100000000000000,.int .u64 1000000000000000,.int .u64 10000000000000000,.int .u64 100000000000000000,.int .u64 1000000000000000000,.int .u64 10000000000000000000]
 let b:=put c 4 #[.int .u8 0,.int .u8 1,.int .u8 28,.int .u8 2,.int .u8 29,.int .u8 14,.int .u8 24,.int .u8 3,.int .u8 30,.int .u8 22,.int .u8 20,.int .u8 15,.int .u8 25,.int .u8 17,.int .u8 4,.int .u8 8,.int .u8 31,.int .u8 27,.int .u8 13,.int .u8 23,.int .u8 21,.int .u8 19,.int .u8 16,.int .u8 7,.int .u8 26,.int .u8 12,.int .u8 18,.int .u8 6,.int .u8 11,.int .u8 5,.int .u8 10,.int .u8 9]
 let a:=put b 5 #[.int .u8 0,.int .u8 1,.int .u8 56,.int .u8 2,.int .u8 57,.int .u8 49,.int .u8 28,.int .u8 3,.int .u8 61,.int .u8 58,.int .u8 42,.int .u8 50,.int .u8 38,.int .u8 29,.int .u8 17,.int .u8 4,.int .u8 62,.int .u8 47,.int .u8 59,.int .u8 36,.int .u8 45,.int .u8 43,.int .u8 51,.int .u8 22,.int .u8 53,.int .u8 39,.int .u8 33,.int .u8 30,.int .u8 24,.int .u8 18,.int .u8 12,.int .u8 5,.int .u8 63,.int .u8 55,.int .u8 48,.int .u8 27,.int .u8 60,.int .u8 41,.int .u8 37,.int .u8 16,.int .u8 46,.int .u8 35,.int .u8 44,.int .u8 21,.int .u8 52,.int .u8 32,.int .u8 23,.int .u8 11,.int .u8 54,.int .u8 26,.int .u8 40,.int .u8 15,.int .u8 34,.int .u8 20,.int .u8 31,.int .u8 10,.int .u8 25,.int .u8 14,.int .u8 19,.int .u8 9,.int .u8 13,.int .u8 8,.int .u8 7,.int .u8 6]
 {w0 with heap:=a}
def zt(os:Os)(args:Array Value):laidMet Tryz.prog laid ((Rl os).forCall (λ_ _=>0) ⟨#[],args,[]⟩).memory:=
 laidMet_of_run' 8 C8 C8
def gA3:mapsRowed Tryz.pinned.checked.prog=true:=C8
def gA7:(Tryz.pinned.checked.prog.stops==[])=true:=C8
def gA9:(Tryz.pinned.checked.prog.stopKnobs==[])=true:=C8
def gE1:(Rows.bodyOpensRow.plainKeys==Tryz.pinned.checked.prog.plainKeys)=true:=C8
def gE3:Tryz.pinned.checked.prog.stopsHeard=true:=C8
def gE4:Tryz.pinned.checked.prog.mayEnter=true:=C8
def gE5:(Rows.bodyOpensRow.lifted==Tryz.pinned.checked.prog.liftsFinal)=true:=C8
def gE6:(Tryz.pinned.checked.prog.make==some Rows.bodyOpensRow.make)=true:=C8
def ţ(P:Program)(fn:Func)(c:OpenClaim):Bool:=c.kinds==(if c.domain.isEmpty then[] else fn.params.toList.map λt=>match P.underlying t with|some (.int k)=>some k|_=>none)
def iK{P:Program}{f:FuncId}{fn:Func}{s:ChangeSpec}{c:OpenClaim}
  (a1:c.wf (OpenSpec.ofChange s)=true)
  (a2:laidOutB P=true)
  (a3:mapsRowed P=true)
  (a4:fn.params.all (P.readableRec ·)=true)
  (a5:namedTie P c.named s.vars=true)
  (a6:(c.stops==[])=true)
  (a7:(P.stops==[])=true)
  (a8:(c.knobs==[])=true)
  (a9:(P.stopKnobs==[])=true)
  (b1:(c.inPlace==P.inPlace f)=true)
  (b2:(c.unfollowed==P.unfollowed f)=true)
  (b3:(c.recurses==P.recurses f)=true)
  (b4:(c.named==P.varsNamed f)=true)
  (u:(c.maps==(fn.params.toList++s.plain.varTypes P).any (P.mapsRec ·))=true)
  (r:(c.ifaces==(fn.params.toList++s.plain.varTypes P).any (P.ifacesRec ·))=true)
  (q:(c.mapsOut==P.mapsAmong fn.resultTypes.toList)=true)
  (p:(c.loops==(fn.params.toList++s.plain.varTypes P).any (P.loopsFrom ·))=true)
  (o:(c.wideKeys==(fn.params.toList++s.plain.varTypes P++fn.resultTypes.toList).any (P.wideKeysFrom ·))=true)
  (n:s.vars.all (P.varReadable ·)=true)
  (m:fn.resultTypes.all (λt=>P.readableRec t&&decide (t<P.types.size))=true)
  (l:(c.ifacesOut==fn.resultTypes.toList.any (P.ifacesRec ·))=true)
  (k:(c.loopsOut==fn.resultTypes.toList.any (P.loopsFrom ·))=true)
  (h:(c.plainKeys==P.plainKeys)=true)
  (g:c.shortTexts.isNone=true)
  (e:P.stopsHeard=true)
  (d:P.mayEnter=true)
  (b:(c.lifted==P.liftsFinal)=true)
  (a:(P.make==some c.make)=true)
  (j:ţ P fn c=true)
  (i:(c.pinned==c.pinnedBy)=true)
  (f1:(c.veiled==(fn.params.toList++s.plain.varTypes P++fn.resultTypes.toList).any (P.veiledRec ·))=true)
  (f2:c.veiledFits P fn.params.toList (fn.params.toList++s.plain.varTypes P++fn.resultTypes.toList)=true):joinedFacts P f fn s c=true:=by
 unfold joinedFacts;simp only[Bq];simp only[a1,a2,a3,a4,a5,a6,a7,a8,a9,b1,b2,b3,b4,u,r,q,p,o,n,m,l,k,h,g,e,d,b,a,i,f1,f2,vJ,Np,Nr];exact j
def aN8:Tryz.pinned.checked.prog.funcs.any Func.goes=false:=C8
def Ť{P:Program}(h:P.funcs.any Func.goes=false)(f:FuncId):P.goes f=false:=by
 unfold Program.goes;rw[h,Ķ,L7];rw[aS3];intro g _;cases hg:P.funcs[g]? with
 |none=>simp
 |some fn=>have hm:fn∈P.funcs:=Array.mem_of_getElem? hg;have h2:=Array.any_eq_false.1 h;obtain⟨i,hi,e⟩:=Array.getElem_of_mem hm;have a:=h2 i hi;rw[e] at a;simpa using a
def qo{c:OpenClaim}(hs:c.start= .entering):false=c.goesBy Tryz.pinned.checked.prog:=by unfold OpenClaim.goesBy Program.goesAt;rw[hs];unfold Program.goesFrom;simp only[L7];rw[wq,Option.any_eq_false];intro f _;rw[Ť aN8];try simp
end Go.Proofs.YtffmdapalbecoaaGreatDoor.š
end
