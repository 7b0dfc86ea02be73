/- Lemmas -/
import Derived.Test.YtjbidlnjecppfaaGreatDoorS2
import Derived.Test.YtjbidlnjecppfaaGreatDoorS3
import Derived.Test.YtjbidlnjecppfaaGreatDoorCards
import Derived.Test.YtjbidlnjecppfaaGreatDoorTie
import Derived.ProofKit
import Derived.OpenShut
import Derived.Deep.DeepWitnessRowRef
import Derived.Lib.LaidU8
import Derived.Shelf.Strings.Repeat
import Derived.Shelf.Spec.SlicesInsertGrow
import Derived.Conc.MuLone
import Derived.RangeFuncBox
import Derived.OwnWalkIn
import Derived.TacticsInMore
import Derived.LoopNIn
import Derived.Sort.LoopGhostIn
set_option linter.all false
open Option renaming some→zz,none→zx
open Go.Am.Ad renaming OJ→qd
open Go.Value renaming int→zr,pointer→zj,slice→zf,int→yw
open Bool renaming true→zq,false→zm
open Go.IntKind renaming i64→zi,u8→y6
section
namespace Go.Proofs.YtjbidlnjecppfaaGreatDoor.aDn
open Go Go.ChangeShapes Go.WideShapes Go.ChangeAt Go.RowKit Go.Am
def BD:ownKnob Tryz.prog.godebug=zx:=Dv
def vq:laidOutB Tryz.prog=zq:=Dv
def mixed:Tryz.prog.follows .mixedOrders=zq:=Dv
def aSG:Tryz.prog.globalNamed "strings.asciiSpace"=zz 0:=by kernel_rfl
def ű:(Tryz.prog.globals[0]?).map (·.type)=zz 337:=Dv
def Ų:Tryz.prog.cellsOf 337=256:=Dv
def aIS:Tryz.prog.cellsOf 5=1:=Dv
abbrev laid:List (String×DataW Unit):=[("math/bits.deBruijn32tab",Rows.laid_math_bits_deBruijn32tab),("math/bits.deBruijn64tab",Rows.laid_math_bits_deBruijn64tab),("internal/strconv.uint64pow10",Rows.laid_internal_strconv_uint64pow10),("unicode.White_Space",Rows.laid_unicode_White_Space),("strings.asciiSpace",Rows.laid_strings_asciiSpace)]
def ke:(Rows.laid_strings_asciiSpace:DataW Unit)=Lib.tabData y6 PL:=Dv
def Î:∀g a,cx.IF g=zz a->a.all qd=zq:=by
 intro g a h;change yJ g=zz a at h;unfold yJ at h;split at h;.cases h;decide+kernel
 .cases h
def aDo{W:World}(h:laidMetH Tryz.prog laid W):∀g e,cx.IF g=zz e->Dr (HF W) e g 0:=by
 intro g e d;change yJ g=zz e at d;unfold yJ at d;split at d
 .cases d;let⟨g,t,e,fuel,p,k,m,b,a⟩:=Lib.laidMet.reads h (.tail _ (.tail _ (.tail _ (.tail _ (.head _)))));obtain rfl:=EZ (aSG.symm.trans k);obtain rfl:=EZ (ű.symm.trans m);let l:=Lib.cells_of_tab Tryz.underlying337 Tryz.underlying5 aIS Ų (ke▸a);refine Dr.Ir λj y c=>?_;let f:=World.var?_cell k b j;rw[<-aMh,l] at f;rw[Iu] at c;rw[Cp] at c f;cases i:PL[j]? with
  |none=>rw[i] at c;cases c
  |some z=>rw[i] at c f;cases c;exact⟨zr y6 z,by show(W.cell? ⟨0,0+j,zx⟩).filter (·.oneCell')=_;rw[B1,f];rfl,rfl⟩
 .cases d
noncomputable def Ti(j:Os):World:=
 let N:=(World.settled Tryz.prog j).heap.size
 let i:=World.holding Tryz.prog j ⟨#[
  .cells #[.int .u16 9,.int .u16 13,.int .u16 1,.int .u16 32,.int .u16 133,.int .u16 101,.int .u16 160,.int .u16 5760,.int .u16 5600,.int .u16 8192,.int .u16 8202,.int .u16 1,.int .u16 8232,.int .u16 8233,.int .u16 1,.int .u16 8239,.int .u16 8287,.int .u16 48,.int .u16 12288,.int .u16 12288,.int .u16 1] 376,
  .cells #[zf (zz ⟨N,0,zx⟩) 7 7,zf zx 0 0,.int zi 2] 373],#[],[]⟩
 let put (h:Array Obj) (g:Nat) (n:Array Value):Array Obj:=h.modify g λ
  | .cells _ t e=> .cells n t e
  |o=>o
 let m:=put i.heap 0 (PL.map λz=>yw y6 z).toArray
 let l:=put m 1 #[zj (zz ⟨N+1,0,zx⟩)]
 let c:=put l 3 #[.int .u64 1,.int .u64 10,.int .u64 100,.int .u64 1000,.int .u64 10000,.int .u64 100000,.int .u64 1000000,.int .u64 10000000,.int .u64 100000000,.int .u64 1000000000,.int .u64 10000000000,.int .u64 100000000000,.int .u64 1000000000000,.int .u64 10000000000000,.int .u64 100000000000000,.int .u64 1000000000000000,.int .u64 10000000000000000,.int .u64 100000000000000000,.int .u64 1000000000000000000,.int .u64 10000000000000000000]
 let b:=put c 4 #[.int y6 0,.int y6 1,.int y6 28,.int y6 2,.int y6 29,.int y6 14,.int y6 24,.int y6 3,.int y6 30,.int y6 22,.int y6 20,.int y6 15,.int y6 25,.int y6 17,.int y6 4,.int y6 8,.int y6 31,.int y6 27,.int y6 13,.int .u8 23,.int .u8 21,.int .u8 19,.int .u8 16,.int .u8 7,.int .u8 26,.int .u8 12,.int .u8 18,.int .u8 6,.int .u8 11,.int .u8 5,.int .u8 10,.int .u8 9]
 let a:=put b 5 #[.int .u8 0,.int .u8 1,.int .u8 56,.int .u8 2,.int .u8 57,.int .u8 49,.int .u8 28,.int .u8 3,.int .u8 61,.int .u8 58,.int .u8 42,.int .u8 50,.int .u8 38,.int .u8 29,.int .u8 17,.int .u8 4,.int .u8 62,.int .u8 47,.int .u8 59,.int .u8 36,.int .u8 45,.int .u8 43,.int .u8 51,.int .u8 22,.int .u8 53,.int .u8 39,.int .u8 33,.int .u8 30,.int .u8 24,.int .u8 18,.int .u8 12,.int .u8 5,.int .u8 63,.int .u8 55,.int .u8 48,.int .u8 27,.int .u8 60,.int .u8 41,.int .u8 37,.int .u8 16,.int .u8 46,.int .u8 35,.int .u8 44,.int .u8 21,.int .u8 52,.int .u8 32,.int .u8 23,.int .u8 11,.int .u8 54,.int .u8 26,.int .u8 40,.int .u8 15,.int .u8 34,.int .u8 20,.int .u8 31,.int .u8 10,.int .u8 25,.int .u8 14,.int .u8 19,.int .u8 9,.int .u8 13,.int .u8 8,.int .u8 7,.int .u8 6]
 {i with heap:=a}
def ų(b:Os)(a:Array Value):laidMet Tryz.prog laid ((Ti b).forCall (λ_ _=>0) ⟨#[],a,[]⟩).memory:=
 laidMet_of_run' 8 Dv Dv
def gA3:mapsRowed Tryz.pinned.checked.prog=zq:=Dv
def gA7:(Tryz.pinned.checked.prog.stops==[])=zq:=Dv
def gA9:(Tryz.pinned.checked.prog.stopKnobs==[])=zq:=Dv
def gE1:(Rows.bodyPlaysRow.plainKeys==Tryz.pinned.checked.prog.plainKeys)=zq:=Dv
def gE3:Tryz.pinned.checked.prog.stopsHeard=zq:=Dv
def gE4:Tryz.pinned.checked.prog.mayEnter=zq:=Dv
def gE5:(Rows.bodyPlaysRow.lifted==Tryz.pinned.checked.prog.liftsFinal)=zq:=Dv
def gE6:(Tryz.pinned.checked.prog.make==zz Rows.bodyPlaysRow.make)=zq:=Dv
def aDp(P:Program)(a:Func)(c:OpenClaim):Bool:=c.kinds==(if c.domain.isEmpty then[] else a.params.toList.map λt=>match P.underlying t with|zz (.int k)=>zz k|_=>zx)
def oF{P:Program}{f:FuncId}{v:Func}{s:ChangeSpec}{c:OpenClaim}
  (G:c.wf (OpenSpec.ofChange s)=zq)
  (F:laidOutB P=zq)
  (a3:mapsRowed P=zq)
  (a4:v.params.all (P.readableRec ·)=zq)
  (E:namedTie P c.named s.vars=zq)
  (a6:(c.stops==[])=zq)
  (D:(P.stops==[])=zq)
  (C:(c.knobs==[])=zq)
  (a9:(P.stopKnobs==[])=zq)
  (B:(c.inPlace==P.inPlace f)=zq)
  (A:(c.unfollowed==P.unfollowed f)=zq)
  (z:(c.recurses==P.recurses f)=zq)
  (y:(c.named==P.varsNamed f)=zq)
  (u:(c.maps==(v.params.toList++s.plain.varTypes P).any (P.mapsRec ·))=zq)
  (r:(c.ifaces==(v.params.toList++s.plain.varTypes P).any (P.ifacesRec ·))=zq)
  (q:(c.mapsOut==P.mapsAmong v.resultTypes.toList)=zq)
  (p:(c.loops==(v.params.toList++s.plain.varTypes P).any (P.loopsFrom ·))=zq)
  (o:(c.wideKeys==(v.params.toList++s.plain.varTypes P++v.resultTypes.toList).any (P.wideKeysFrom ·))=zq)
  (n:s.vars.all (P.varReadable ·)=zq)
  (m:v.resultTypes.all (λt=>P.readableRec t&&decide (t<P.types.size))=zq)
  (l:(c.ifacesOut==v.resultTypes.toList.any (P.ifacesRec ·))=zq)
  (k:(c.loopsOut==v.resultTypes.toList.any (P.loopsFrom ·))=zq)
  (h:(c.plainKeys==P.plainKeys)=zq)
  (g:c.shortTexts.isNone=zq)
  (e:P.stopsHeard=zq)
  (d:P.mayEnter=zq)
  (b:(c.lifted==P.liftsFinal)=zq)
  (a:(P.make==zz c.make)=zq)
  (j:aDp P v c=zq)
  (i:(c.pinned==c.pinnedBy)=zq)
  (x:(c.veiled==(v.params.toList++s.plain.varTypes P++v.resultTypes.toList).any (P.veiledRec ·))=zq)
  (w:c.veiledFits P v.params.toList (v.params.toList++s.plain.varTypes P++v.resultTypes.toList)=zq):joinedFacts P f v s c=zq:=by
 simp only[joinedFacts,Bs,G,F,a3,a4,E,a6,D,C,a9,B,A,z,y,u,r,q,p,o,n,m,l,k,h,g,e,d,b,a,i,x,w,iK,OD,OE];exact j
def aSH:Tryz.pinned.checked.prog.funcs.any Func.goes=zm:=Dv
def aDq{P:Program}(h:P.funcs.any Func.goes=zm)(f:FuncId):P.goes f=zm:=by
 rw[Program.goes];rw[h,aCI,Np];rw[aXY];intro g _;cases d:P.funcs[g]? with
 |none=>simp
 |some k=>have b:k∈P.funcs:=Array.mem_of_getElem? d;let j:=Array.any_eq_false.1 h;let⟨i,c,e⟩:=Array.getElem_of_mem b;let a:=j i c;rw[e] at a;exact zv a
def Ï{c:OpenClaim}(a:c.start= .entering):zm=c.goesBy Tryz.pinned.checked.prog:=by unfold OpenClaim.goesBy Program.goesAt;rw[a,Program.goesFrom,Np];rw[İ,Option.any_eq_false];intro f _;rw[aDq aSH];try simp
end Go.Proofs.YtjbidlnjecppfaaGreatDoor.aDn
end
open Go.Am.Ad renaming int→zw,bool→z1,tuple→y7,still→θ,ptr→x6,func→wx,map→η,slnil→wl,nilIface→uu,iface→tg,agg→rz
open Go.Am.DH renaming cells→zl
namespace Go.Am
open Go Go.RowKit
section
variable{U U':Gh}{h:Ak}{w i:World}
def IA.Nc(a:IA U h w)(c:Below w.heap.size w i):IA U h i/\M7 U w U i:=by
 let z:∀{b o v},U.JJ b o=zz v->b<w.heap.size:=λ{b o v} m=>Ek (a.JJ b o v m).1;let l:∀{d x b},h[d]?=zz x->x≠ .CV->U.mu d=zz b->b<w.heap.size:=λ{d x b} t B f=>by let⟨b',p,q⟩:=a.Oa d x t B;rw[f] at p;cases p;exact a.BD b _ q
 refine⟨⟨λb o v m=>?_,a.Oa,λd D k b f=>?_,λd C k b f=>?_,a.mu,λb x t=>KK (a.BD b x t) c.size,λb n A=>?_⟩,.refl _,c.size,c.os,c.tape,c.output,λb u _=>⟨c.block b u,rfl⟩⟩;.let⟨p,q,r⟩:=a.JJ b o v m;exact⟨C9 (c.block b (z m))▸p,q,r⟩
 .let⟨s,e,y,p,q⟩:=a.cells d D k b f;exact⟨s,e,y,c.block b (l k AF f)▸p,q⟩
 .let⟨E,j,p,q⟩:=a.map d C k b f;exact⟨E,j,c.block b (l k AF f)▸p,q⟩
 .let⟨⟨s,e,y,p,q⟩,r⟩:=a.sz b n A;exact⟨⟨s,e,y,c.block b (Bf.1 p).1▸p,q⟩,r⟩
def yK(e:Below w.heap.size w i):(HF w).le (HF i):=⟨λb o v a=>by rw[HF,TS] at a⊢;exact⟨C9 (e.block b (Ek a.1))▸a.1,a.2⟩,λid b d=>(by cases d),λb n c=>(by cases c)⟩
mutual
def B3.mem(hi:IA U h w):∀(a:Ad) (v:Value),a.still=zq->B3 U a v->B3 (HF w) a v
 | z1 b,v,_,h=>h
 | zw k n,v,_,h=>h
 | .str s,v,_,h=>h
 | x6 zx,v,_,h=>h
 | x6 (zz (id,o)),v,hs,h=>by simp[θ] at hs
 | .CO cs,v,hs,h=>let⟨b,o,hv,hm⟩:=h;⟨b,o,hv,Dr.mem hi cs b o (by simpa[θ] using hs) hm⟩
 | .sl z AH,v,hs,h=>let⟨d,cap,hv,hc,hp,hm⟩:=h;⟨d,cap,hv,hc,hp,GJ.mem hi AH z _ _ (by simpa[θ] using hs) hm⟩
 | wl,v,_,h=>h
 | .FT _,v,_,h=>h
 | .CK id off len z,v,hs,h=>by simp[θ] at hs
 | η zx,v,_,h=>h
 | η (zz id),v,hs,h=>by simp[θ] at hs
 | wx fn f c,v,hs,h=>by let⟨fs,cs,hv,h1,h2⟩:=h;rw[θ,Bs] at hs;exact⟨fs,cs,hv,Bt.mem hi f _ hs.1 h1,Bt.mem hi c _ hs.2 h2⟩
 | .nilFunc,v,_,h=>h
 | tg t a,v,hs,h=>let⟨u,hv,h1⟩:=h;⟨u,hv,B3.mem hi a u (by simpa[θ] using hs) h1⟩
 | uu,v,_,h=>h
 | rz cs,v,hs,h=>let⟨us,hv,h1,h2⟩:=h;⟨us,hv,Bt.mem hi cs _ (by simpa[θ] using hs) h1,h2⟩
 | y7 vs,v,hs,h=>let⟨us,hv,h1⟩:=h;⟨us,hv,Bt.mem hi vs _ (by simpa[θ] using hs) h1⟩
def Bt.mem(hi:IA U h w):∀(l:List Ad) (us:List Value),Lb l=zq->Bt U l us->Bt (HF w) l us
 |[],us,_,h=>h
 |a::l,us,hs,h=>by let⟨u,Ei,hu,h1,h2⟩:=h;rw[Lb,Bs] at hs;exact⟨u,Ei,hu,B3.mem hi a u hs.1 h1,Bt.mem hi l Ei hs.2 h2⟩
def Dr.mem(hi:IA U h w):∀(l:List Ad) (b o),Lb l=zq->Dr U l b o->Dr (HF w) l b o
 |[],_,_,_,_=>trivial
 |a::l,b,o,hs,h=>by let⟨⟨u,hu,h1⟩,h2⟩:=h;rw[Lb,Bs] at hs;let⟨p,q,_⟩:=hi.JJ b o u hu;exact⟨⟨u,Xt p q,B3.mem hi a u hs.1 h1⟩,Dr.mem hi l b (o+1) hs.2 h2⟩
def GJ.mem(hi:IA U h w):∀(rs:List (List Ad)) (z b o),OX rs=zq->GJ U rs z b o->GJ (HF w) rs z b o
 |[],_,_,_,_,_=>trivial
 |r::rs,z,b,o,hs,h=>by rw[OX,Bs] at hs;exact⟨h.1,Dr.mem hi r b o hs.1 h.2.1,GJ.mem hi rs z b (o+z) hs.2 h.2.2⟩
end
def PM(p:IA U h w){i g:Nat}{k:List Ad}(q:h[i]?=zz (zl k))(n:U.mu i=zz g){j:Nat}{a:Ad}(r:k[j]?=zz a):
  ∃u,w.cell? ⟨g,j,zx⟩=zz u/\u.oneCell'=zq/\B3 U a u:=by
 let⟨l,e,s,d,_,c,b⟩:=p.cells i k q g n;let⟨u,f,m⟩:=c.get r;let o:l[j]?=zz u:=by
  rw[Cw] at f;split at f;.exact zv f
  .cases f
 exact⟨u,cell_of_row w _ _ l e s d▸o,b u (C7 f),m⟩
end
end Go.Am
namespace Go.Proofs
open Go.Shelf
def Tryz.Ys:Go.Shelf.Ren:=⟨λ|169=>150|n=>n,λ|70=>161|9=>9|0=>0|72=>164|37=>162|127=>262|3=>3|5=>5|n=>n,λ|n=>n⟩
def Tryz.aDr:Go.Proofs.Lays.n169 Tryz.prog Tryz.Ys:={
 mixed:=by kernel_rfl
 f169:=Tryz.func150.trans (congrArg zz (by kernel_rfl))
 t0:=Tryz.underlying0
 a0:=Tryz.isAgg0
 z0:=Tryz.sizeOf0
 v0:=Tryz.zeroValue0
 t3:=Tryz.underlying3
 a3:=Tryz.isAgg3
 z3:=Tryz.sizeOf3
 v3:=Tryz.zeroValue3
 t9:=Tryz.underlying9
 a9:=Tryz.isAgg9
 z9:=Tryz.sizeOf9
 v9:=Tryz.zeroValue9
 t37:=Tryz.underlying162
 a37:=Tryz.isAgg162
 z37:=Tryz.sizeOf162
 v37:=Tryz.zeroValue162
 t70:=Tryz.underlying161
 a70:=Tryz.isAgg161
 z70:=Tryz.sizeOf161
 v70:=Tryz.zeroValue161
 t72:=Tryz.underlying164
 a72:=Tryz.isAgg164
 z72:=Tryz.sizeOf164
 v72:=Tryz.zeroValue164
 t127:=Tryz.underlying262
 a127:=Tryz.isAgg262
 z127:=Tryz.sizeOf262
 v127:=Tryz.zeroValue262}
def Tryz.VI:Builder.Extra Tryz.prog Tryz.Ys:={
 sizeBuilder:=by kernel_rfl
 liesBuilder:=by kernel_rfl
 t5:=Tryz.underlying5
 a5:=Tryz.isAgg5
 z5:=Tryz.sizeOf5
 v5:=Tryz.zeroValue5
 infoByte:=by kernel_rfl
 cellsByte:=by kernel_rfl
 sizeByte:=by kernel_rfl
 neB5:=by decide}
open Go.RowKit in
def Tryz.Builder_String_any(B b:Nat)(l:List UInt8)(w:World)(h:Lib.IsBuilder 164 5 B b (Lib.byteCells l) w)(hBw:B<=w.heap.size):
 Calls Tryz.prog 150 #[.pointer (some ⟨b,0,none⟩)] w λe w'=>e= .returned (.string ⟨l.toArray⟩)/\Below B w w':=Any.Builder_String_any Tryz.aDr Tryz.VI B b l w h hBw
def Tryz.Sk:Go.Shelf.Ren:=⟨λ|105=>293|167=>295|212=>380|99=>381|165=>382|166=>292|170=>383|169=>150|263=>412|264=>413|206=>414|240=>379|241=>415|276=>411|277=>427|n=>n,λ|9=>9|3=>3|4=>4|20=>20|0=>0|46=>313|109=>314|5=>5|72=>164|76=>256|51=>269|146=>328|53=>330|148=>331|70=>161|37=>162|75=>255|127=>262|164=>326|80=>166|n=>n,λ|n=>n⟩
def Tryz.oG:Go.Proofs.Lays.n105 Tryz.prog Tryz.Sk:={
 mixed:=by kernel_rfl
 f99:=Tryz.func381.trans (congrArg zz (by kernel_rfl))
 f105:=Tryz.func293.trans (congrArg zz (by kernel_rfl))
 f165:=Tryz.func382.trans (congrArg zz (by kernel_rfl))
 f166:=Tryz.func292.trans (congrArg zz (by kernel_rfl))
 f169:=Tryz.func150.trans (congrArg zz (by kernel_rfl))
 f170:=Tryz.func383.trans (congrArg zz (by kernel_rfl))
 f206:=Tryz.func414.trans (congrArg zz (by kernel_rfl))
 f212:=Tryz.func380.trans (congrArg zz (by kernel_rfl))
 f240:=Tryz.func379.trans (congrArg zz (by kernel_rfl))
 f241:=Tryz.func415.trans (congrArg zz (by kernel_rfl))
 f263:=Tryz.func412.trans (congrArg zz (by kernel_rfl))
 f264:=Tryz.func413.trans (congrArg zz (by kernel_rfl))
 f276:=Tryz.func411.trans (congrArg zz (by kernel_rfl))
 f277:=Tryz.func427.trans (congrArg zz (by kernel_rfl))
 t0:=Tryz.underlying0
 a0:=Tryz.isAgg0
 z0:=Tryz.sizeOf0
 v0:=Tryz.zeroValue0
 t3:=Tryz.underlying3
 a3:=Tryz.isAgg3
 z3:=Tryz.sizeOf3
 v3:=Tryz.zeroValue3
 t4:=Tryz.underlying4
 a4:=Tryz.isAgg4
 z4:=Tryz.sizeOf4
 v4:=Tryz.zeroValue4
 t5:=Tryz.underlying5
 a5:=Tryz.isAgg5
 z5:=Tryz.sizeOf5
 v5:=Tryz.zeroValue5
 t9:=Tryz.underlying9
 a9:=Tryz.isAgg9
 z9:=Tryz.sizeOf9
 v9:=Tryz.zeroValue9
 t20:=Tryz.underlying20
 a20:=Tryz.isAgg20
 z20:=Tryz.sizeOf20
 v20:=Tryz.zeroValue20
 t37:=Tryz.underlying162
 a37:=Tryz.isAgg162
 z37:=Tryz.sizeOf162
 v37:=Tryz.zeroValue162
 t46:=Tryz.underlying313
 a46:=Tryz.isAgg313
 z46:=Tryz.sizeOf313
 v46:=Tryz.zeroValue313
 t51:=Tryz.underlying269
 a51:=Tryz.isAgg269
 z51:=Tryz.sizeOf269
 v51:=Tryz.zeroValue269
 t53:=Tryz.underlying330
 a53:=Tryz.isAgg330
 z53:=Tryz.sizeOf330
 v53:=Tryz.zeroValue330
 t70:=Tryz.underlying161
 a70:=Tryz.isAgg161
 z70:=Tryz.sizeOf161
 v70:=Tryz.zeroValue161
 t72:=Tryz.underlying164
 a72:=Tryz.isAgg164
 z72:=Tryz.sizeOf164
 v72:=Tryz.zeroValue164
 t75:=Tryz.underlying255
 a75:=Tryz.isAgg255
 z75:=Tryz.sizeOf255
 v75:=Tryz.zeroValue255
 t76:=Tryz.underlying256
 a76:=Tryz.isAgg256
 z76:=Tryz.sizeOf256
 v76:=Tryz.zeroValue256
 t109:=Tryz.underlying314
 a109:=Tryz.isAgg314
 z109:=Tryz.sizeOf314
 v109:=Tryz.zeroValue314
 t127:=Tryz.underlying262
 a127:=Tryz.isAgg262
 z127:=Tryz.sizeOf262
 v127:=Tryz.zeroValue262
 t146:=Tryz.underlying328
 a146:=Tryz.isAgg328
 z146:=Tryz.sizeOf328
 v146:=Tryz.zeroValue328
 t148:=Tryz.underlying331
 a148:=Tryz.isAgg331
 z148:=Tryz.sizeOf331
 v148:=Tryz.zeroValue331
 t164:=Tryz.underlying326
 a164:=Tryz.isAgg326
 z164:=Tryz.sizeOf326
 v164:=Tryz.zeroValue326}
def Tryz.LS:Builder.Extra Tryz.prog Tryz.Sk:={
 sizeBuilder:=by kernel_rfl
 liesBuilder:=by kernel_rfl
 t5:=Tryz.underlying5
 a5:=Tryz.isAgg5
 z5:=Tryz.sizeOf5
 v5:=Tryz.zeroValue5
 infoByte:=by kernel_rfl
 cellsByte:=by kernel_rfl
 sizeByte:=by kernel_rfl
 neB5:=by decide}
open Go.RowKit Go.Lib in
def Tryz.strings_Repeat(s:ByteArray)(c:Nat)(w:World)(hc:c<=9223372036854775807)(hlen:s.size*c<=140737488355328):
 Calls Tryz.prog 293 #[.string s,.int .i64 c] w λe w'=>e= .returned (.string ⟨(Lib.repeatL s.data.toList c).toArray⟩)/\Below w.heap.size w w':=Any.strings_Repeat Tryz.oG Tryz.LS s c w hc hlen
def Tryz.jG:Go.Shelf.Ren:=⟨λ|21=>233|27=>355|28=>356|35=>406|39=>426|n=>n,λ|22=>67|3=>3|4=>4|0=>0|n=>n,λ|n=>n⟩
def Tryz.PO:Go.Proofs.Lays2.n21 Tryz.prog Tryz.jG:={
 mixed:=by kernel_rfl
 f21:=Tryz.func233.trans (congrArg zz (by kernel_rfl))
 f27:=Tryz.func355.trans (congrArg zz (by kernel_rfl))
 f28:=Tryz.func356.trans (congrArg zz (by kernel_rfl))
 f35:=Tryz.func406.trans (congrArg zz (by kernel_rfl))
 f39:=Tryz.func426.trans (congrArg zz (by kernel_rfl))
 t0:=Tryz.underlying0
 a0:=Tryz.isAgg0
 z0:=Tryz.sizeOf0
 v0:=Tryz.zeroValue0
 t3:=Tryz.underlying3
 a3:=Tryz.isAgg3
 z3:=Tryz.sizeOf3
 v3:=Tryz.zeroValue3
 t4:=Tryz.underlying4
 a4:=Tryz.isAgg4
 z4:=Tryz.sizeOf4
 v4:=Tryz.zeroValue4
 t22:=Tryz.underlying67
 a22:=Tryz.isAgg67
 z22:=Tryz.sizeOf67
 v22:=Tryz.zeroValue67
 i3:=by kernel_rfl}
def Tryz.aDs:Go.Proofs.Lays.n167 Tryz.prog Tryz.Sk:={Tryz.oG with
 f167:=Tryz.func295.trans (congrArg zz (by kernel_rfl))}
open Go.RowKit in
def Tryz.Builder_WriteByte(B b:Nat)(bs:List Value)(c:Int)(w:World)(h:Lib.IsBuilder 164 5 B b bs w)(hlen:bs.length+1<=140737488355328)(hBw:B<=w.heap.size):
 Calls Tryz.prog 295 #[.pointer (some ⟨b,0,none⟩),.int .u8 c] w λe w'=>e= .returned .nilIface/\(Lib.BuilderAt 164 5 B b (.pointer (some ⟨b,0,none⟩)) (bs++[.int .u8 c]) w'/\Below B w w'):=Any.Builder_WriteByte Tryz.aDs Tryz.LS B b bs c w h hlen hBw
open Go.RowKit in
def Tryz.Builder_WriteString(B b:Nat)(bs:List Value)(s:ByteArray)(w:World)(h:Lib.IsBuilder 164 5 B b bs w)(hlen:bs.length+s.size<=140737488355328)(hBw:B<=w.heap.size):
 Calls Tryz.prog 292 #[.pointer (some ⟨b,0,none⟩),.string s] w λe w'=>e= .returned (.tuple #[.int .i64 s.size,.nilIface])/\(Lib.BuilderAt 164 5 B b (.pointer (some ⟨b,0,none⟩)) (bs++Lib.strCells s) w'/\Below B w w'):=Any.Builder_WriteString {Tryz.oG with} Tryz.LS B b bs s w h hlen hBw
end Go.Proofs
namespace Go.Am
open Go Go.RowKit
section
variable{U U':Gh}{h:Ak}{w w':World}
noncomputable def cx0:Hw:={cx with IF:=λ_=>none}
def IA.rel(hi:IA U h w):Dp cx0 U w U (λ_=>0) [] h {tmps:=#[],defers:=[]} w:=
 ⟨hi,⟨rfl,λs=>trivial⟩,M7.refl U w,rfl,λg cs hg=>by cases hg⟩
def oH(w:World)(g:Nat)(a b:Array Value)(us:Array Value)(e:TypeId)(fr:Nat×Nat)(hg:w.heap[g]?=some (.cells us e fr)):(w.setRow g a).setRow g b=w.setRow g b:=by
 unfold World.setRow;congr 1
 grind
def yL(w:World)(cv:List Value)(k n:Nat)(x:Value)(Z1 a:Array Value)(e:TypeId)(hl:cv.length=n)(hk:k<n)(hz:Z1.size=n+1 -k):
  let w1:=(((w.alloc (.cells ((cv.take k).toArray++Z1++a) e)).drew.setCells w.heap.size k [x]).drew).setCells w.heap.size (k+1) (cv.drop k)
  w1.heap=w.heap.push (.cells (cv.take k++[x]++cv.drop k++a.toList).toArray e (0,0))/\w1.os=w.os/\w1.tape=w.tape/\w1.output=w.output:=by
 intro w1;have b:(cv.take k).length=k:=ES;have KP:((cv.take k).toArray++Z1++a).size=n+1+a.size:=by simp only[LG,Ci,b,hz];omega
 have jx:(w.alloc (.cells ((cv.take k).toArray++Z1++a) e)).drew.heap[w.heap.size]?=some (.cells ((cv.take k).toArray++Z1++a) e (0,0)):=heap_alloc_new w _;have d:=FC [x] k _ _ jx (by rw[KP];simp;omega);have f:(((cv.take k).toArray++Z1++a).toList.take k++[x]++((cv.take k).toArray++Z1++a).toList.drop (k+[x].length))=cv.take k++[x]++(Z1.toList.drop 1++a.toList):=by
  simp only[Io,AO,Bg,BH];congr 1
  .exact Jc b
  .congr 1
   rw[<-FJ,KZ b,WT];have:1 -Z1.toList.length=0:=ES;simp only[B1] at*;rw[this,HK]
 rw[f] at d;have Ť:((w.alloc (.cells ((cv.take k).toArray++Z1++a) e)).drew.setRow w.heap.size (cv.take k++[x]++(Z1.toList.drop 1++a.toList)).toArray).drew.heap[w.heap.size]?=some (.cells (cv.take k++[x]++(Z1.toList.drop 1++a.toList)).toArray e (0,0)):=setRow_heap _ _ _ _ _ _ jx;have ZE:(Z1.toList.drop 1).length=n-k:=by simp[hz];omega
 have c:=FC (cv.drop k) (k+1) _ _ Ť (by simp[hz];omega);have hB:((cv.take k++[x]++(Z1.toList.drop 1++a.toList)).toArray.toList.take (k+1)++cv.drop k++(cv.take k++[x]++(Z1.toList.drop 1++a.toList)).toArray.toList.drop (k+1+(cv.drop k).length))=cv.take k++[x]++cv.drop k++a.toList:=by
  have h1:(cv.take k++[x]).length=k+1:=ES;simp only[MM];rw[Jc h1,<-FJ,KZ h1];congr 1
  exact KZ (by rw[ZE];simp;omega)
 rw[hB] at c;have Y9:w1=((w.alloc (.cells ((cv.take k).toArray++Z1++a) e)).drew.setRow w.heap.size (cv.take k++[x]++(Z1.toList.drop 1++a.toList)).toArray).drew.setRow w.heap.size (cv.take k++[x]++cv.drop k++a.toList).toArray:=by show((((w.alloc _).drew.setCells _ _ _).drew).setCells _ _ _)=_;rw[d,c]
 rw[Y9];refine⟨?_,rfl,rfl,rfl⟩;apply wQ;intro i;by_cases hi:i=w.heap.size;.subst hi;rw[setRow_heap _ _ _ _ _ _ Ť];simp
 .rw[setRow_other _ _ _ _ hi];show((w.alloc _).drew.setRow _ _).heap[i]?=_;rw[setRow_other _ _ _ _ hi];show(w.heap.push _)[i]?=_;rw[aR4,aR4,Aa hi,Aa hi]
def Ð:ŗ cx 233:=by
 refine⟨⟨_,_,Proofs.Tryz.func233,rfl,rfl⟩,?_⟩;intro U h w s N i x h' r g f Ġ e0 hi hs hp p PQ WZ R aYG;have hd:Below w.heap.size w w.drew:=(Below.refl _ _).drew;have hvs:∀(j:Nat) (v:Value),[Value.int .i64 x][j]?=some v->w.cell? ⟨g,0+j,none⟩=some v:=λj v hj=>by
  cases j with
  |zero=>cases hj;rw[cell_of_row w _ _ Ġ e0 (0,0) p];exact PQ
  |succ j=>simp at hj
 have h1v:∀v∈[Value.int .i64 x],v.oneCell'=true:=λv hv=>by simp at hv;subst hv;rfl
 have S:g<w.heap.size:=(Bf.1 p).1;unfold S8 at hp;split at hp
 .rename_i i' x' OR;cases OR;split at hp
  .rename_i h0;subst h0;cases hp;have La:N= .slice none 0 0:=hs;subst La;have hc:=Proofs.Any2.slices_Insert_int_end_grow Proofs.Tryz.PO none 0 0 g 0 1 f [] [.int .i64 x] w Ab (Af _) Ab AR rfl rfl (λ_=>rfl) (λ_ e=>by cases e) hvs h1v;refine hc.mono λe w' he=>?_;obtain⟨rfl,rfl⟩:=he;have EC:=grownCap_ge w (0+1) 0 3;have MR:(([]++[Value.int .i64 x]).toArray++Builtin.zeroCells (Value.int .i64 0).cells (grownCap w (0+1) 0 3 -(0+1))).size=grownCap w (0+1) 0 3:=by simp only[LG,size_zeroCells];show 1+(grownCap w 1 0 3 -1)*1=_;have:grownCap w (0+1) 0 3=grownCap w 1 0 3:=rfl;omega
   obtain⟨Zy,Ry⟩:=Ia (hi.Nc hd).1 (.cells (([]++[Value.int .i64 x]).toArray++Builtin.zeroCells (Value.int .i64 0).cells (grownCap w (0+1) 0 3 -(0+1))) 3 (0,0)) (.cells [.int .i64 x]) (some _)
    (.inl ⟨_,_,_,_,rfl,rfl,.inl rfl,⟨_,[],AF,rfl,rfl⟩,by simp[Value.oneCell'],rfl⟩)
   exact⟨_,Zy,(hi.Nc hd).2.trans Ry,⟨w.heap.size,grownCap w (0+1) 0 3,by simp[Gh.B6],rfl,EC,⟨Dj 0,grownCap_le_maxLen _ _ _ _ AR⟩,by simp only[Gh.B6];rw[Ae (show w.heap.size=w.drew.heap.size from rfl),MR,GP];exact Cx some (B1 _).symm⟩⟩
  .cases hp
 .rename_i id n i' x' OR;cases OR;split at hp
  .rename_i cs hcs;split at hp
   .rename_i Jf;obtain⟨W,M,L,E⟩:=Jf;cases hp;obtain⟨b,cap,hm,rfl,hnc,⟨_,A⟩,MR⟩:=(show B3 U _ _ from hs);obtain⟨us,e,fr,t,pf,I,Q⟩:=hi.cells id cs hcs b hm;obtain⟨⟨Ei,e',Ğ,D,B⟩,_⟩:=hi.sz b _ MR;rw[t] at D;cases D;obtain⟨T,C,aSI⟩:=hi.Oa id _ hcs AF;rw[hm] at C;cases C;have hne:g≠b:=λhe=>WZ id (by rw[he];exact aSI);have wT:cs.length<=us.size:=by have:=I.length;simp at this;omega
    have R7:us.size=cap:=by rw[B];omega
    obtain⟨k,hk⟩:∃k:Nat,i=k:=⟨i.toNat,Ab⟩;subst hk;simp only[A6] at*;generalize o:us.toList.take n=cv;have aDt:cv.length=n:=by rw[<-o];simp;omega
    have hcells:∀(j:Nat) (v:Value),cv[j]?=some v->w.cell? ⟨b,0+j,none⟩=some v:=λj v hj=>by
     rw[cell_of_row w _ _ us e fr t,B1];rw[<-o,Cw] at hj;split at hj;.simpa using hj
     .cases hj
    have aDu:∀v∈cv,v.oneCell'=true:=λv hv=>Q v (by
     rw[<-o] at hv;have:us.toList.take n=(us.toList.take cs.length).take n:=by rw[FL,CE L]
     rw[this] at hv;exact BQ hv)
    have hcr:Bt U (cs.take n) cv:=by have:=I.take n;rw[FL,CE L,o] at this;exact this
    have Y9:Bt U (cs.take k++[.int .i64 x]++(cs.take n).drop k) (cv.take k++[.int .i64 x]++cv.drop k):=by
     have K:cs.take k=(cs.take n).take k:=by rw[FL,CE M]
     rw[K];exact((hcr.take k).append (show Bt U [.int .i64 x] [Value.int .i64 x] from⟨_,[],rfl,rfl,rfl⟩)).append (hcr.drop k)
    have aG8:∀v∈cv.take k++[Value.int .i64 x]++cv.drop k,v.oneCell'=true:=λv hv=>by
     simp only[AO,AA,Ax] at hv;rcases hv with hv|rfl|hv
     .exact aDu v (BQ hv)
     .rfl
     .exact aDu v (BU hv)
    have Iq:(cv.take k++[Value.int .i64 x]++cv.drop k).length=n+1:=ES;have aSJ:(cv.take k).length+[Value.int .i64 x].length+(cv.drop k).length=n+1:=by rw[<-Iq];simp only[As]
    have Zu:(cs.take k++[Ad.int .i64 x]++(cs.take n).drop k).length=n+1:=by rw[<-Iq,Y9.length]
    have hsp:∀j,j<n+1->n+1<=cap->(w.cell? ⟨b,0+j,none⟩).isSome=true:=λj hj hc=>by rw[cell_of_row w _ _ us e fr t,Es Ab];rfl
    have hfz:∀j,j<n+1->n+1<=cap->w.frozen? ⟨b,0+j,none⟩=false:=λj hj hc=>by
     simp only[World.frozen?,t];rcases pf with rfl|uw
     .simp
     .simp;omega
    have l:∀(w1:World),n+1<=cap->w1=(w.drew).setRow b (cv.take k++[Value.int .i64 x]++cv.drop k++us.toList.drop (n+1)).toArray\/w1=w.setRow b (cv.take k++[Value.int .i64 x]++cv.drop k++us.toList.drop (n+1)).toArray->
      ∃U',IA U' (h.set id .CV++[.cells (cs.take k++[.int .i64 x]++(cs.take n).drop k)]) w1/\M7 U w U' w1/\B3 U' (.CK h.length 0 (n+1) 1) (.slice (some ⟨b,0,none⟩) (n+1) cap):=by
     intro w1 hroom jx;have VC:(cv.take k++[Value.int .i64 x]++cv.drop k++us.toList.drop (n+1)).toArray.size=us.size:=by rw[Ci,As,Iq,Bp,CG];omega
     have Yg:(cv.take k++[Value.int .i64 x]++cv.drop k++us.toList.drop (n+1)).toArray.toList.take (cs.take k++[Ad.int .i64 x]++(cs.take n).drop k).length=cv.take k++[Value.int .i64 x]++cv.drop k:=by rw[Zu,<-Iq];exact FM
     have go:∀wd:World,IA U h wd->M7 U w U wd->wd.heap[b]?=some (.cells us e fr)->∃U',IA U' (h.set id .CV++[.cells (cs.take k++[.int .i64 x]++(cs.take n).drop k)]) (wd.setRow b (cv.take k++[Value.int .i64 x]++cv.drop k++us.toList.drop (n+1)).toArray)/\M7 U w U' (wd.setRow b (cv.take k++[Value.int .i64 x]++cv.drop k++us.toList.drop (n+1)).toArray)/\B3 U' (.CK h.length 0 (n+1) 1) (.slice (some ⟨b,0,none⟩) (n+1) cap):=by
      intro wd Jo ja hp;obtain⟨H,E7,Yh,Na,aIT⟩:=Jo.rel.jm hcs hm hp (by rw[MR,B]) (cv.take k++[Value.int .i64 x]++cv.drop k++us.toList.drop (n+1)).toArray (cs.take k++[.int .i64 x]++(cs.take n).drop k) VC
       (by
        rcases pf with rfl|pf
        .exact .inl rfl
        .exact .inr (by rw[VC];exact pf)) (by rw[Yg];exact Y9) (by rw[Yg];exact aG8)
      exact⟨H,Na.ED,ja.trans Na.Ex,b,cap,Yh,rfl,hroom,⟨Dj 0,A⟩,by rw[aIT,B]⟩
     rcases jx with rfl|rfl
     .obtain⟨Jo,ja⟩:=hi.Nc hd;exact go w.drew Jo ja t
     .exact go w hi (M7.refl _ _) t
    have u:∀(w1:World) (c:Nat) (d:List Value),n+1<=c->c<=maxLen->d.length=c-(n+1)->w1.heap=(w.heap.push (.cells (cv.take k++[Value.int .i64 x]++cv.drop k++d).toArray 3 (0,0)))->w1.os=w.os->w1.tape=w.tape->w1.output=w.output->
      ∃U',IA U' (h.set id .CV++[.cells (cs.take k++[.int .i64 x]++(cs.take n).drop k)]) w1/\M7 U w U' w1/\B3 U' (.CK h.length 0 (n+1) 1) (.slice (some ⟨w.heap.size,0,none⟩) (n+1) c):=by
     intro w1 c d hc hcl gq J ho ht F;have VC:(cv.take k++[Value.int .i64 x]++cv.drop k++d).toArray.size=c:=by simp only[Ci,As,aSJ,gq];omega
     have Yg:(cv.take k++[Value.int .i64 x]++cv.drop k++d).toArray.toList.take (cs.take k++[Ad.int .i64 x]++(cs.take n).drop k).length=cv.take k++[Value.int .i64 x]++cv.drop k:=by rw[Zu,<-Iq];exact FM
     obtain⟨H,E7,Yh,Na,aIT⟩:=(hi.rel.kill id).newObj (cv.take k++[Value.int .i64 x]++cv.drop k++d).toArray 3 (0,0) (cs.take k++[.int .i64 x]++(cs.take n).drop k) (.inl rfl) (by rw[Yg];exact Y9) (by rw[Yg];exact aG8);have hb:Below (w.alloc (.cells (cv.take k++[Value.int .i64 x]++cv.drop k++d).toArray 3 (0,0))).heap.size (w.alloc (.cells (cv.take k++[Value.int .i64 x]++cv.drop k++d).toArray 3 (0,0))) w1:=⟨ho,ht,F,by rw[J];exact Af _,λk' _=>by rw[J];rfl⟩;obtain⟨G,kg⟩:=Na.ED.Nc hb;have hlen:(h.set id .CV).length=h.length:=AF;rw[hlen] at Yh;exact⟨H,G,Na.Ex.trans kg,w.heap.size,c,Yh,rfl,hc,⟨Dj 0,hcl⟩,by rw[aIT,VC];simp⟩
    by_cases hroom:n+1<=cap
    .by_cases z:k=n
     .subst z;have hc:=Proofs.Any2.slices_Insert_int_end_room Proofs.Tryz.PO b 0 k cap g 0 1 f [.int .i64 x] w Ab hroom A rfl (λj hj=>by rw[(Ab:0+k+j=0+(k+j))];exact hsp _ Ab hroom) (λj hj=>by rw[(Ab:0+k+j=0+(k+j))];exact hfz _ Ab hroom) hvs h1v;refine hc.mono λe w' he=>?_;obtain⟨rfl,rfl⟩:=he;refine l _ hroom (.inr ?_);rw[FC _ _ us w t ES,B1,o];congr 2
      rw[AU (Ab:cv.length<=k),AL Ab,Br];rfl
     .have hlt:k<n:=by omega
      have hc:=Proofs.Any2.slices_Insert_int_shift Proofs.Tryz.PO b 0 n cap k g 0 1 f cv [.int .i64 x] w hlt Ab hroom A hne aDt rfl hcells (λj hj=>hsp j hj hroom) (λj hj=>hfz j hj hroom) hvs aDu h1v
       e0 e Ġ.size us.size (by simp[World.shape?,p]) (by simp[World.shape?,t]) Ab (by rw[World.frozen?,p];rfl) (by rw[World.frozen?,p];rfl)
      refine hc.mono λe w' he=>?_;obtain⟨rfl,rfl⟩:=he;refine l _ hroom (.inl ?_);have y:w.drew.heap[b]?=some (.cells us _ fr):=t;rw[FC (cv.drop k) (0+(k+1)) us w.drew y ES,FC [.int .i64 x] (0+k) _ _ (setRow_heap _ b us _ _ _ y) ES,oH _ _ _ _ us _ _ y];congr 2
      apply Uj;intro j;have K:(us.toList.take (0+(k+1))++cv.drop k++us.toList.drop (0+(k+1)+(cv.drop k).length)).length=us.size:=ES;have V:∀q,us.toList.take q=(us.toList.take n).take q++(us.toList.drop n).take (q-n):=λq=>by
       conv=>lhs;rw[<-CU n us.toList]
       rw[tw];simp only[Az,CG];rw[CE (Ab:n<=us.size)]
      simp only[B1];have iV:(us.toList.take (k+1)++cv.drop k++us.toList.drop (k+1+(cv.drop k).length)).take k=cv.take k:=by rw[AO,Dh ES,FL,CE (Gd k),V k,o,Nat.sub_eq_zero_of_le M,GD,Br]
      have iO:(us.toList.take (k+1)++cv.drop k++us.toList.drop (k+1+(cv.drop k).length)).drop (k+1)=cv.drop k++us.toList.drop (n+1):=by
       have:(us.toList.take (k+1)).length=k+1:=ES;rw[AO,KZ this];congr 2
       simp;omega
      simp only[Bg,BH,B1];rw[iV,iO,AO,AO,AO]
    .by_cases z:k=n
     .subst z;have hc:=Proofs.Any2.slices_Insert_int_end_grow Proofs.Tryz.PO (some ⟨b,0,none⟩) k cap g 0 1 f cv [.int .i64 x] w Ab hnc Ab (by simpa[AN] using E) aDt rfl (λe=>by cases e) (λa ea j v hj=>by cases ea;have:=hcells j v hj;rw[B1] at this;rw[show(Addr.mk b 0 none).add j=⟨b,j,none⟩ by unfold Addr.add;split<;>simp_all];exact this) hvs h1v;refine hc.mono λe w' he=>?_;obtain⟨rfl,rfl⟩:=he;have EC:=grownCap_ge w (k+1) cap 3;refine u _ (grownCap w (k+1) cap 3) (Builtin.zeroCells (Value.int .i64 0).cells (grownCap w (k+1) cap 3 -(k+1))).toList EC (grownCap_le_maxLen _ _ _ _ (by simp only[AN] at E;simp only[maxLen];omega)) (by rw[CG,size_zeroCells];exact GP _) ?_ rfl rfl rfl;rw[AU (Ab:cv.length<=k),AL Ab,Br];show w.heap.push _=w.heap.push _;congr 2
      apply IV;simp;rfl
     .have hlt:k<n:=by omega
      have hc:=Proofs.Any2.slices_Insert_int_grow Proofs.Tryz.PO b 0 n cap k g 0 1 f cv [.int .i64 x] w hlt Ab hnc Ab (by simpa[AN] using E) aDt rfl hcells hvs aDu h1v;refine hc.mono λe w' he=>?_;obtain⟨rfl,rfl⟩:=he;have EC:=grownCap_ge w (n+1) cap 3;have nT:∀m,(Builtin.zeroCells (Value.int .i64 0).cells m).size=m:=λm=>by rw[size_zeroCells];exact GP _
      refine u _ (grownCap w (n+1) cap 3) (Builtin.zeroCells (Value.int .i64 0).cells (grownCap w (n+1) cap 3 -(n+1))).toList EC (grownCap_le_maxLen _ _ _ _ (by simp only[AN] at E;simp only[maxLen];omega)) (by rw[CG,nT]) ?_ ?_ ?_ ?_;all_goals
       obtain⟨D,B,P,O⟩:=yL w cv k n (.int .i64 x) (Builtin.zeroCells (Value.int .i64 0).cells (n+1 -k)) (Builtin.zeroCells (Value.int .i64 0).cells (grownCap w (n+1) cap 3 -(n+1))) 3 aDt hlt (nT _);first|exact D|exact B|exact P|exact O
   .cases hp
  .cases hp
 .cases hp
end
end Go.Am
open List renaming length→zy
open Go.Value renaming string→zd,bool→yy,agg→ry
open Go.Proofs.Tryz renaming prog→zn,func53→sr,underlying156→r6,underlying67→qz,ntmps53→pb
open Go.Am.IT renaming step→zh,run→yj
open Go.Instr renaming makeSlice→rv
open Go.Result renaming ok→wz
open Or renaming inl→ym
open Go.Am.Gh renaming B6→y9
open Go.Am.Dz renaming ret→wi
namespace Go.Am
open Go Go.RowKit Go.Shelf
section
variable{U m:Gh}{h:Ak}{w o:World}
def IA.aDw(d:IA U h w):IA U (h++[.CV]) w:=by
 let c:∀{a:Nat} {x:DH},(h++[DH.CV])[a]?=zz x->x≠ .CV->h[a]?=zz x:=λ{a x} e m=>by
  obtain hl|hl:=AQ a (zy h)
  .rwa [An hl] at e
  .rw[Bu hl] at e;cases l:a-zy h with
   |zero=>rw[l] at e;cases e;cases m rfl
   |succ k=>rw[l] at e;simp at e
 exact⟨d.JJ,λa y p j=>d.Oa a y (c p j) j,λa o i b f=>d.cells a o (c i AF) b f,λa n i b f=>d.map a n (c i AF) b f,λa b f=>by have:=d.mu a b f;simp;omega,d.BD,d.sz⟩
def aDx:zn.follows .mixedOrders=zq:=Dv
abbrev JX:Array Value:=#[zr zi 0,zr zi 0,zf zx 0 0,zr zi 0,zr zi 0,zd ⟨#[]⟩,zf zx 0 0,zd ⟨#[]⟩,zd ⟨#[]⟩,zd ⟨#[]⟩,yy zm,zr zi 0,zr zi 0]
def aIU:(zn.info? 144).map (λi=>(i.zero,i.size,i.bytes))=zz (zz (ry JX),13,168):=Dv
def aMY:(zn.info? 3).map (λi=>(i.zero,i.size,i.bytes))=zz (zz (zr zi 0),1,8):=Dv
def aIV:madeCells (Value.agg JX).cells (Int.toNat 1*13)=JX:=Dv
def aMZ:madeCells (yw zi 0).cells (Int.toNat 1*1)=#[zr zi 0]:=Dv
def aDy(w:World):(rv 156 (zr zi 1) (zr zi 1)).run zn w= wz (zf (zz ⟨w.heap.size,0,zx⟩) 1 1) (w.alloc (.cells JX 144)):=by let⟨i,d,c⟩:=OF.1 aIU;simp[K6] at c;let⟨c,b,a⟩:=c;have:=run_make w 156 144 i _ r6 d c zi zi 1 1 AR AR (by rw[a];decide) AR;rwa[b,aIV] at this
def aIW(w:World):(rv 67 (zr zi 1) (zr zi 1)).run zn w= wz (zf (zz ⟨w.heap.size,0,zx⟩) 1 1) (w.alloc (.cells #[zr zi 0] 3)):=by let⟨i,d,c⟩:=OF.1 aMY;simp[K6] at c;let⟨c,b,a⟩:=c;have:=run_make w 67 3 i _ qz d c zi zi 1 1 AR AR (by rw[a];decide) AR;rwa[b,aMZ] at this
set_option maxHeartbeats 2000000 in
set_option maxRecDepth 100000 in
def aM0(w:World):Calls zn 53 #[] w λe o=>e= .returned (zj (zz ⟨w.heap.size+1+1,0,zx⟩))/\
  (o = (((w.alloc (.cells JX 144)).alloc (.cells #[.int zi 0] 3)).alloc (.cells #[zf (zz ⟨w.heap.size, 0, zx⟩) 1 1, zf (zz ⟨w.heap.size + 1, 0, zx⟩) 1 1] 183)).drew \/
   o = (((w.alloc (.cells #[.int zi 0] 3)).alloc (.cells JX 144)).alloc (.cells #[zf (zz ⟨w.heap.size + 1, 0, zx⟩) 1 1, zf (zz ⟨w.heap.size, 0, zx⟩) 1 1] 183)).drew) := by
 have mixed:=aDx;have b:=aDy;have a:=aIW;go_enter sr,pb
 go_wp2
 go_region_o
 all_goals go_wp2
 all_goals refine bodyPost_ret (results_tmp rfl _ _ _) rfl ?_
 .exact⟨rfl,.inl rfl⟩
 .exact⟨rfl,.inr rfl⟩
abbrev Yt:List Ad:=[zw zi 0,zw zi 0,wl,zw zi 0,zw zi 0,.str [],wl,.str [],.str [],.str [],z1 zm,zw zi 0,zw zi 0]
def yM(U:Gh):Bt U Yt JX.toList:=⟨_,_,rfl,rfl,_,_,rfl,rfl,_,_,rfl,rfl,_,_,rfl,rfl,_,_,rfl,rfl,_,_,rfl,rfl,_,_,rfl,rfl,_,_,rfl,rfl,_,_,rfl,rfl,_,_,rfl,rfl,_,_,rfl,rfl,_,_,rfl,rfl,_,_,rfl,rfl,rfl⟩
def yN:∀u∈JX.toList,u.oneCell'=zq:=AR
def aIX(n:Nat)(q:List Ad)(r:Ad)(D:Ak)(K:zh (Cf cx) (yj (Cf cx) n) (ZD q) h=zz (wi,[r],D)):
  (∃fn c,cx.P.funcs[Fq 53]?=zz fn/\(fn.name== "runtime.NumGoroutine")=zm/\fn.body=zz c)/\
  ∀(U:Gh) (w:World) (p:Array Value),IA U h w->(∀g E,cx.IF g=zz E->Dr U E g 0)->Bt U q p.toList->
   Calls cx.P (Fq 53) p w λe o=>match e with
    | .returned v=>∃m,IA m D o/\M7 U w m o/\B3 m r v/\(cx.KG 53=zq->∃s c,Kk m w.heap.size o s c v r)
    |_=>False:=by
 refine⟨⟨_,_,Proofs.Tryz.func53,rfl,rfl⟩,λU w p F hg Y=>?_⟩;cases q with
 |cons _ _=>cases K
 |nil=>
  have X:p=#[]:=by have:=Y.length;exact Ka (by simpa using this)
  subst X;have G:some (Dz.ret,[Ad.ptr (some (h.length+3,0))],h++[.CV]++[.cells Yt]++[.cells [.int .i64 0]]++[.cells [.CK (h.length+1) 0 1 13,.CK (h.length+2) 0 1 1]])=some (.ret,[r],D):=K;simp only[BN,K6,FU,OD,OE] at G;obtain⟨rfl,rfl⟩:=G;refine(aM0 w).mono λe o V=>?_;obtain⟨rfl,T⟩:=V;have L:∀l:Ak,(l++[DH.CV]).length=l.length+1:=λl=>AF;have H:∀(x:Gh) (W:World),IA x (h++[.CV]++[zl Yt]++[zl [zw zi 0]]) W->M7 U w x W->W.heap.size=w.heap.size+1+1->∀u t,x.mu (zy h+1)=zz u->x.mu (zy h+2)=zz t->x.sz u=zz 13->x.sz t=zz 1->
    ∃m,IA m (h++[.CV]++[zl Yt]++[zl [zw zi 0]]++[zl [.CK (zy h+1) 0 1 13,.CK (zy h+2) 0 1 1]]) (W.alloc (.cells #[zf (zz ⟨u,0,zx⟩) 1 1,zf (zz ⟨t,0,zx⟩) 1 1] 183)).drew/\
     M7 U w m (W.alloc (.cells #[zf (zz ⟨u,0,zx⟩) 1 1,zf (zz ⟨t,0,zx⟩) 1 1] 183)).drew/\B3 m (x6 (zz (zy h+3,0))) (zj (zz ⟨w.heap.size+1+1,0,zx⟩))/\(cx.KG 53=zq->∃s c,Kk m w.heap.size (W.alloc (.cells #[zf (zz ⟨u,0,zx⟩) 1 1,zf (zz ⟨t,0,zx⟩) 1 1] 183)).drew s c (zj (zz ⟨w.heap.size+1+1,0,zx⟩)) (x6 (zz (zy h+3,0)))):=by
   intro x W A y MR u t i f d N;let⟨z,B⟩:=Ia A (.cells #[zf (zz ⟨u,0,zx⟩) 1 1,zf (zz ⟨t,0,zx⟩) 1 1] 183 (0,0)) (zl [.CK (zy h+1) 0 1 13,.CK (zy h+2) 0 1 1]) (zz 2)
    (ym ⟨_,_,_,_,rfl,rfl,ym rfl,⟨_,_,rfl,⟨u,1,i,rfl,Af _,⟨AR,AR⟩,d⟩,_,_,rfl,⟨t,1,f,rfl,Af _,⟨AR,AR⟩,N⟩,rfl⟩,by simp[Value.oneCell'],rfl⟩)
   let⟨b,R⟩:=z.Nc ((Below.refl _ _).drew);refine⟨_,b,(y.trans B).trans R,⟨W.heap.size,by simp[y9],by rw[MR]⟩,λe=>by cases e⟩
  rcases T with rfl|rfl
  .let⟨A,y⟩:=Ia F.aDw (.cells JX 144 (0,0)) (.cells Yt) (zz 13) (.inl ⟨_,_,_,_,rfl,rfl,.inl rfl,yM _,yN,rfl⟩);let⟨z,B⟩:=Ia A (.cells #[.int .i64 0] 3 (0,0)) (.cells [.int .i64 0]) (zz 1) (.inl ⟨_,_,_,_,rfl,rfl,.inl rfl,⟨_,[],rfl,rfl,rfl⟩,by simp[Value.oneCell'],rfl⟩);have:=H _ _ z (((M7.refl _ _).trans y).trans B) AF w.heap.size (w.heap.size+1) (by simp[y9]) (by simp[y9]) (by simp[y9]) (by simp[y9]);exact this
  .let⟨A,y⟩:=Ia F (.cells #[.int .i64 0] 3 (0,0)) (.cells [.int .i64 0]) (zz 1) (.inl ⟨_,_,_,_,rfl,rfl,.inl rfl,⟨_,[],rfl,rfl,rfl⟩,by simp[Value.oneCell'],rfl⟩);let⟨z,B⟩:=Ia A (.cells JX 144 (0,0)) (.cells Yt) (zz 13) (.inl ⟨_,_,_,_,rfl,rfl,.inl rfl,yM _,yN,rfl⟩);have a:((w.alloc (.cells #[.int .i64 0] 3)).alloc (.cells JX 144)).heap[w.heap.size]?=zz (.cells #[.int .i64 0] 3 (0,0)):=by rw[Fy _ _ AF];exact heap_alloc_new w _
   let⟨k,J,Z,C,VC⟩:=z.rel.jm (id:=h.length) (g:=w.heap.size) (cs:=[.int .i64 0]) AF (by simp[y9]) a (by simp[y9]) #[.int .i64 0] [.int .i64 0] rfl (.inl rfl) ⟨_,[],rfl,rfl,rfl⟩ (by simp[Value.oneCell']);rw[setRow_self _ _ _ _ _ a] at C;rw[(AF:(h++[DH.cells [Ad.int .i64 0]]++[DH.cells Yt]).set h.length .CV++[DH.cells [Ad.int .i64 0]]=h++[.CV]++[.cells Yt]++[.cells [.int .i64 0]])] at C;have:=H k _ C.ED (((M7.refl U w).trans y).trans B |>.trans C.Ex) AF (w.heap.size+1) w.heap.size
    (J.mu _ _ (by simp[y9])) (by simpa using Z) (J.sz _ _ (by simp[y9])) VC
   exact this
end
end Go.Am
set_option maxHeartbeats 0
set_option maxRecDepth 100000
namespace Go.Am
open Go Go.RowKit Go.Shelf
section
variable{U U':Gh}{h:Ak}{w w':World}
def IA.aIY(hi:IA U h w){id g j:Nat}{cs:List Ad}(hcs:h[id]?=some (.cells cs))(hg:U.mu id=some g)(hj:j<cs.length){u:Ad}{v:Value}(hv:B3 U u v)(h1:v.oneCell'=true):
  IA U (h.set id (.cells (cs.set j u))) (w.setCell ⟨g,j,none⟩ v)/\M7 U w U (w.setCell ⟨g,j,none⟩ v):=by
 obtain⟨us,e,fr,k,n,f,m⟩:=hi.cells id cs hcs g hg;have hl:cs.length<=us.size:=by have:=f.length;simp at this;omega
 rw[setCell_eq_setRow w g j us e fr v k];have c:(us.setIfInBounds j v).toList.take (cs.set j u).length=(us.toList.take cs.length).set j v:=by simp[List.take_set]
 refine Pz hi hcs hg k _ _ AF (by simpa using n) ?_ ?_
 .rw[c];refine Bt.Ir ES λi a x ha hx=>?_;by_cases b:j=i;.subst b;rw[AT Ab] at ha;rw[AT ES] at hx;cases ha;cases hx;exact hv
  .rw[Av b] at ha hx;obtain⟨x',d,l⟩:=f.get ha;rw[hx] at d;cases d;exact l
 .rw[c];intro x hx;rcases DY hx with hx|rfl
  .exact m x hx
  .exact h1
def IA.VJ(hi:IA U h w){id g j:Nat}{cs:List Ad}{u:Ad}(hcs:h[id]?=some (.cells cs))(hg:U.mu id=some g)(hj:cs[j]?=some u):
  w.frozen? ⟨g,j,none⟩=false/\∃x,w.cell? ⟨g,j,none⟩=some x/\B3 U u x:=by
 obtain⟨x,b,_,a⟩:=PM hi hcs hg hj;obtain⟨us,e,fr,f,d,c,i⟩:=hi.cells id cs hcs g hg;have hl:cs.length<=us.size:=by have:=c.length;simp at this;omega
 have:=(Aq.1 hj).1;refine⟨?_,x,b,a⟩;simp only[World.frozen?,f];rcases d with rfl|uw
 .simp
 .simp;omega
end
abbrev aM1:Go.Conc.Locks.MuLink:={lock:=442,unlock:=443,ilock:=452,iunlock:=453,lockSlow:=464,unlockSlow:=467,disable:=460,enable:=462,acquire:=463,relMerge:=465,cas32:=461,add32:=466,tMutex:=349,tIMutex:=347,tPMutex:=400,tPIMutex:=415,tPI32:=417,tUP:=326,tNoCopy:=342,tU32:=269}
open Proofs in
def aM2:Go.Conc.Locks.MuLib Proofs.Tryz.prog aM1:=
 ⟨Tryz.func442,Tryz.func443,Tryz.func452,Tryz.func453,Tryz.func460,Tryz.func462,Tryz.func463,Tryz.func465,Tryz.func461,Tryz.func466,
  Tryz.underlying347,Tryz.runUnderlying347,Tryz.sizeOf347,Tryz.isAgg347,Tryz.zeroValue347,Tryz.underlying349,Tryz.runUnderlying349,Tryz.sizeOf349,Tryz.isAgg349,Tryz.zeroValue349,
  Tryz.underlying400,Tryz.runUnderlying400,Tryz.sizeOf400,Tryz.isAgg400,Tryz.zeroValue400,Tryz.underlying415,Tryz.runUnderlying415,Tryz.sizeOf415,Tryz.isAgg415,Tryz.zeroValue415,
  Tryz.underlying417,Tryz.runUnderlying417,Tryz.sizeOf417,Tryz.isAgg417,Tryz.zeroValue417,Tryz.underlying326,Tryz.runUnderlying326,Tryz.sizeOf326,Tryz.isAgg326,Tryz.zeroValue326,
  Tryz.underlying342,Tryz.runUnderlying342,Tryz.sizeOf342,Tryz.isAgg342,Tryz.zeroValue342,Tryz.underlying21,Tryz.runUnderlying21,Tryz.sizeOf21,Tryz.isAgg21,Tryz.zeroValue21,Dv⟩
def cN(a:Addr)(x:Value)(u:FrameMode)(w:World)(hc:w.cell? a=some x)(hz:w.frozen? a=false):
  CallsD Proofs.Tryz.prog 444 #[.pointer (some a),.bool true] u w λe b w'=>b=u/\(e= .returned (.tuple #[])/\w'=w.drew.setCell a (.int .u32 1)):=by
 have JU:w.drew.cell? a=some x:=by go_simp
 have iW:w.drew.frozen? a=false:=by go_simp
 have I3:=run_call_store (P:=Proofs.Tryz.prog) Proofs.Tryz.func454 Dv Dv Dv Dv (k:= .u32) (y:=1) JU iW;go_enter_d Proofs.Tryz.func444,Proofs.Tryz.ntmps444
 go_wp2
 go_region_calls
 all_goals (go_end0;exact⟨rfl,rfl⟩)
def vr(a:Addr)(d:Int)(w:World)(h0:w.cell? a=some (.int .u32 d)):Calls Proofs.Tryz.prog 432 #[.pointer (some a)] w λe w'=>e= .returned (.bool (d != 0))/\w=w':=by
 have hl:=run_call_load (P:=Proofs.Tryz.prog) Proofs.Tryz.func441 Dv Dv Dv .u32 Dv h0;go_enter Proofs.Tryz.func432,Proofs.Tryz.ntmps432
 go_wp2
 go_ret
 exact⟨rfl,rfl⟩
abbrev kh(b:Nat)(r:Value)(w:World)(Q:World->Prop):Prop:=
 Calls Proofs.Tryz.prog 429 #[r] (w.setCell ⟨b,1,none⟩ (.int .i32 1)) λe w'=>(∃v,e= .returned v)/\Q w'/\w'.cell? ⟨b,0,none⟩=some (.int .u32 0)/\w'.cell? ⟨b,1,none⟩=some (.int .i32 1)/\w'.frozen? ⟨b,0,none⟩=false/\w'.frozen? ⟨b,1,none⟩=false
def aDz(b:Nat)(r:Value)(w:World)(Q:World->Prop)(hd:kh b r w Q)
  (h0:w.cell? ⟨b,0,none⟩=some (.int .u32 0)) (h1:w.cell? ⟨b,1,none⟩=some (.int .i32 0))
  (f0:w.frozen? ⟨b,0,none⟩=false) (f1:w.frozen? ⟨b,1,none⟩=false):
  Calls Proofs.Tryz.prog 433 #[.pointer (some ⟨b,0,none⟩),.func (.func 429) #[r] #[]] w λe w'=>e= .returned (.tuple #[])/\
   ∃w'',Q w''/\w'=(w''.drew.setCell ⟨b,0,none⟩ (.int .u32 1)).setCell ⟨b,1,none⟩ (.int .i32 0):=by
 have l0:(w.setCell ⟨b,1,none⟩ (.int .i32 1)).cell? ⟨b,0,none⟩=some (.int .u32 0):=(World.cell?_setCell_other _ ⟨b,1,none⟩ ⟨b,0,none⟩ _ AF).trans h0;have aII:∀(x:Bool) (w:World),(Op.unary .not (.bool x)).run Proofs.Tryz.prog w= .ok (.bool (!x)) w:=λ_ _=>rfl;go_enter_defers Proofs.Tryz.func433,Proofs.Tryz.ntmps433
 go_wp2_with (first|(go_at_call 442;refine(MuLone.lock_free aM2 ⟨b,1,none⟩ _ (by go_simp) (by go_simp)).mono ?_;rintro e w' ⟨rfl,rfl⟩)|(go_at_call 432;refine(vr _ 0 _ l0).mono ?_;rintro e w' ⟨rfl,rfl⟩)|(go_at_call 429;refine hd.mono ?_;rintro e w' ⟨⟨v,rfl⟩,hq,g,d,z0,a⟩))
 refine leaves_cons (f:=444) (args:=#[.pointer (some ⟨b,0,none⟩),.bool true]) AF (by simp[go_sem]) ?_;refine(cN ⟨b,0,none⟩ (.int .u32 0) .returning _ g z0).mono ?_;rintro e c w'' ⟨rfl,rfl,rfl⟩;refine leaves_cons (f:=443) (args:=#[.pointer (some ⟨b,1,none⟩)]) (by simp[settle]) (by simp[go_sem]) ?_;refine(MuLone.unlock_deferred aM2 ⟨b,1,none⟩ _ _ ?_ (by simp[a])).mono ?_;.exact(World.cell?_setCell_other _ ⟨b,0,none⟩ ⟨b,1,none⟩ _ AF).trans (by rw[World.cell?_drew];exact d)
 rintro e c w'' ⟨rfl,rfl,rfl⟩;simp[Leaves,settle,results,Proofs.Tryz.results433];exact⟨_,hq,rfl⟩
def aM3(b:Nat)(r:Value)(w:World)(Q:World->Prop)(hd:kh b r w Q)
  (h0:w.cell? ⟨b,0,none⟩=some (.int .u32 0)) (h1:w.cell? ⟨b,1,none⟩=some (.int .i32 0))
  (f0:w.frozen? ⟨b,0,none⟩=false) (f1:w.frozen? ⟨b,1,none⟩=false):
  Calls Proofs.Tryz.prog 428 #[.pointer (some ⟨b,0,none⟩),.func (.func 429) #[r] #[]] w λe w'=>e= .returned (.tuple #[])/\
   ∃w'',Q w''/\w'=(w''.drew.setCell ⟨b,0,none⟩ (.int .u32 1)).setCell ⟨b,1,none⟩ (.int .i32 0):=by
 have aII:∀(x:Bool) (w:World),(Op.unary .not (.bool x)).run Proofs.Tryz.prog w= .ok (.bool (!x)) w:=λ_ _=>rfl;go_enter Proofs.Tryz.func428,Proofs.Tryz.ntmps428
 go_wp2_with (first|(go_at_call 432;refine(vr _ 0 _ h0).mono ?_;rintro e w' ⟨rfl,rfl⟩)|(go_at_call 433;refine(aDz b r w Q hd h0 h1 f0 f1).mono ?_;rintro e w' ⟨rfl,w'',hq,rfl⟩))
 go_end0
 exact⟨rfl,w'',hq,rfl⟩
def aIZ(x:Value)(w:World):(method 556 394 x "Replace").run Proofs.Tryz.prog w= .ok (501,x) w:=by kernel_rfl
def aI0(b:Nat)(s:Value)(w:World)(Q:World->Prop)(R:Ending->World->Prop)(hd:kh b (.pointer (some ⟨b,0,none⟩)) w Q)
  (h0:w.cell? ⟨b,0,none⟩=some (.int .u32 0)) (h1:w.cell? ⟨b,1,none⟩=some (.int .i32 0))
  (f0:w.frozen? ⟨b,0,none⟩=false) (f1:w.frozen? ⟨b,1,none⟩=false)
  (hq:∀w'',Q w''->∃x,((w''.drew.setCell ⟨b,0,none⟩ (.int .u32 1)).setCell ⟨b,1,none⟩ (.int .i32 0)).cell? ⟨b,3,none⟩=some (.iface 394 x)/\
   Calls Proofs.Tryz.prog 501 #[x,s] ((w''.drew.setCell ⟨b,0,none⟩ (.int .u32 1)).setCell ⟨b,1,none⟩ (.int .i32 0)) λe w'=>(∃v,e= .returned v)/\R e w'):
  Calls Proofs.Tryz.prog 417 #[.pointer (some ⟨b,0,none⟩),s] w R:=by
 have c:∀(fn:Fn) (first cap:Array Value) (w:World),(Instr.makeFunc fn first cap).run Proofs.Tryz.prog w= .ok (.func fn first cap) w:=λ_ _ _ _=>rfl;have Y7:=aIZ;go_enter Proofs.Tryz.func417,Proofs.Tryz.ntmps417
 go_wp2_with (first|(go_at_call 428;refine(aM3 b _ w Q hd h0 h1 f0 f1).mono ?_;clear hd h0 h1 f0 f1;rintro e w' ⟨rfl,w'',Ŵ,a⟩;obtain⟨x,hx,hc⟩:=hq w'' Ŵ;rw[<-a] at hx hc;clear hq a)|(go_at_call 501;refine hc.mono ?_;rintro e d ⟨⟨v,rfl⟩,hr⟩))
 exact hr
variable{h:Ak}
def ŵ{id:Nat}{v:Ad}(e:A8 h (some 3) (.ptr (some (id,0)))=some v):∃cs,h[id]?=some (.cells cs)/\3<=cs.length/\v= .agg (cs.take 3):=by
 simp only[A8] at e;split at e
 .rename_i cs hc;simp only[Gp] at e;split at e;.rename_i hl;cases e;exact⟨cs,hc,Ab,rfl⟩
  .cases e
 .cases e
def oI{id o:Nat}{v:Ad}{h1:Ak}(hv:v.cells=[v])(e:Cv h 1 (.ptr (some (id,o))) v=some h1):∃cs,h[id]?=some (.cells cs)/\o<cs.length/\h1=h.set id (.cells (cs.set o v)):=by
 simp only[Cv] at e;split at e
 .rename_i cs hc;split at e
  .rename_i hl;have a:o<cs.length:=Ab;have hs:cs.take o++[v]++cs.drop (o+1)=cs.set o v:=by rw[B0,Ae a];simp
   rw[hv,hs] at e;cases e;exact⟨cs,hc,a,rfl⟩
  .cases e
 .cases e
def lA{cs:List Ad}{a b c:Ad}(e:Ad.agg (cs.take 3)= .agg [a,b,c]):cs[0]?=some a/\cs[1]?=some b/\cs[2]?=some c:=by
 injection e with e
 match cs,e with
 |a'::b'::c'::l,e=>simp at e;simp[e]
 |[_,_],e=>simp at e
 |[_],e=>simp at e
 |[],e=>simp at e
def aDA(n:Nat)(hs:F9 cx (IT.run (Cf cx) n))(args:List Ad)(r:Ad)(h':Ak)(Bd:IT.step (Cf cx) (IT.run (Cf cx) n) (cM 429 501 394 args) h=some (.ret,[r],h')):
  (∃fn c,cx.P.funcs[Fq 417]?=some fn/\(fn.name== "runtime.NumGoroutine")=false/\fn.body=some c)/\
  ∀(U:Gh) (w:World) (cargs:Array Value),IA U h w->(∀g cs,cx.IF g=some cs->Dr U cs g 0)->Bt U args cargs.toList->
   Calls cx.P (Fq 417) cargs w λe w'=>match e with
    | .returned v=>∃U',IA U' h' w'/\M7 U w U' w'/\B3 U' r v/\(cx.KG 417=true->∃s c,Kk U' w.heap.size w' s c v r)
    |_=>False:=by
 refine⟨⟨_,_,Proofs.Tryz.func417,rfl,rfl⟩,λU w cargs hi hg ha=>?_⟩;unfold cM at Bd;split at Bd
 .rename_i id s;simp only[IT.step] at Bd;cases S:A8 h (some 3) (.ptr (some (id,0))) with
  |none=>simp[S] at Bd
  |some v1=>
  simp only[S] at Bd;split at Bd
  .rename_i W8;have W8:=Ad.beq_eq W8;cases R:Cv h 1 (.ptr (some (id,1))) (.int .i32 1) with
   |none=>simp[R] at Bd
   |some h1=>
   simp only[R] at Bd;cases Q:IT.run (Cf cx) n (Cf cx 429 [.ptr (some (id,0))]) h1 with
   |none=>simp[Q] at Bd
   |some R3=>
   simp only[Q] at Bd;split at Bd
   .rename_i r3 h2 OR;cases OR;cases O:A8 h2 (some 3) (.ptr (some (id,0))) with
    |none=>simp[O] at Bd
    |some v4=>
    simp only[O] at Bd;split at Bd
    .rename_i d;have d:=Ad.beq_eq d;cases N:Cv h2 1 (.ptr (some (id,0))) (.int .u32 1) with
     |none=>simp[N] at Bd
     |some h3=>
     simp only[N] at Bd;cases M:Cv h3 1 (.ptr (some (id,1))) (.int .i32 0) with
     |none=>simp[M] at Bd
     |some H=>
     simp only[M] at Bd;cases L:A8 H none (.ptr (some (id,3))) with
     |none=>simp[L] at Bd
     |some v7=>
     simp only[L,EH] at Bd;cases f:ka 394 H [v7] with
     |none=>simp[f] at Bd
     |some R8=>
     obtain⟨V,u⟩:=R8;simp only[f] at Bd;have J:v7= .iface 394 u/\V=H:=by
      cases v7 with
      |iface t' v=>
       simp only[ka] at f;split at f;.rename_i ht;cases f;subst ht;exact⟨rfl,rfl⟩
       .cases f
      |_=>cases f
     obtain⟨rfl,rfl⟩:=J;cases I:IT.run (Cf cx) n (Cf cx 501 [u,s]) V with
     |none=>simp[I] at Bd
     |some R9=>
     simp only[I] at Bd;split at Bd
     .rename_i r9 h9 OR;cases OR;cases Bd;obtain⟨cs,Vb,ZE,rfl⟩:=ŵ S;obtain⟨g0,g1,g2⟩:=lA W8;obtain⟨Iz,aM5,aSL,rfl⟩:=oI rfl R;rw[Vb] at aM5;cases aM5;obtain⟨VD,KB,Zb,rfl⟩:=ŵ O;obtain⟨Z,Y,k2⟩:=lA d;obtain⟨aYL,aM6,aSM,rfl⟩:=oI rfl N;rw[KB] at aM6;cases aM6;obtain⟨cs3,Pu,wV,rfl⟩:=oI rfl M;have Ã:id<h2.length:=(Aq.1 KB).1;have aYM:id<h.length:=(Aq.1 Vb).1;rw[AT Ã] at Pu;cases Pu;have k:((h2.set id (.cells (VD.set 0 (.int .u32 1)))).set id (.cells ((VD.set 0 (.int .u32 1)).set 1 (.int .i32 0))))[id]?=some (.cells ((VD.set 0 (.int .u32 1)).set 1 (.int .i32 0))):=AT (by simpa using Ã);have K:((VD.set 0 (.int .u32 1)).set 1 (.int .i32 0))[3]?=some (.iface 394 u):=by simpa only[A8,k,Gp] using L
      obtain⟨v0,us,D,⟨b,hm,rfl⟩,l,Ei,rfl,y,hnil⟩:=ha;cases hnil;have a:cargs=#[.pointer (some ⟨b,0,none⟩),l]:=by apply IV;simpa using D
      subst a;obtain⟨f0,x0,c0,q⟩:=hi.VJ Vb hm g0;obtain⟨f1,x1,c1,p⟩:=hi.VJ Vb hm g1;cases q;cases p;obtain⟨Za,jF⟩:=hi.aIY Vb hm aSL (u:= .int .i32 1) (v:= .int .i32 1) rfl rfl;refine aI0 b l w (λw''=>∃i,IA i h2 w''/\M7 U w i w'') _ ?_ c0 c1 f0 f1 ?_
      .refine((hs.2 429 _ _ _ _ Q).2 U _ #[.pointer (some ⟨b,0,none⟩)] Za hg ⟨_,_,rfl,⟨b,hm,rfl⟩,rfl⟩).mono λe w' he=>?_;cases e with
       |returned v=>obtain⟨i,Zy,Ry,_,_⟩:=he;have Yh:=Ry.le.mu _ _ hm;obtain⟨z0,y0,d0,o⟩:=Zy.VJ KB Yh Z;obtain⟨W,y1,d1,m⟩:=Zy.VJ KB Yh Y;cases o;cases m;exact⟨⟨v,rfl⟩,⟨i,Zy,jF.trans Ry⟩,d0,d1,z0,W⟩
       |_=>exact he.elim
      .rintro w'' ⟨i,Zy,Ry⟩;have Yh:=Ry.le.mu _ _ hm;obtain⟨B,kg⟩:=Zy.Nc ((Below.refl _ _).drew);obtain⟨A,G⟩:=B.aIY KB Yh aSM (u:= .int .u32 1) (v:= .int .u32 1) rfl rfl;obtain⟨j,F⟩:=A.aIY (AT Ã) Yh wV (u:= .int .i32 0) (v:= .int .i32 0) rfl rfl;obtain⟨_,y3,d3,T,t,X⟩:=j.VJ k Yh K;subst t;refine⟨T,d3,?_⟩;have LQ:=((Ry.trans kg).trans G).trans F;refine((hs.2 501 _ _ _ _ I).2 i _ #[T,l] j (λg cs C=>Dr.mono LQ.le cs g 0 (hg g cs C)) ⟨_,_,rfl,X,_,_,rfl,B3.mono LQ.le _ _ y,rfl⟩).mono λe w' he=>?_;cases e with
       |returned v=>obtain⟨U6,z,E,x,_⟩:=he;exact⟨⟨v,rfl⟩,U6,z,LQ.trans E,x,λe=>by cases e⟩
       |_=>exact he.elim
     .cases Bd
    .cases Bd
   .cases Bd
  .cases Bd
 .cases Bd
end Go.Am
section
namespace Go.Am
open Go Go.RowKit Go.Shelf
def lB(ga:Nat)(p:Option Addr)(n cap:Nat)(x:Int)(w:World)(hc:w.cell? ⟨ga,0,none⟩=some (.slice p n cap)):
  Calls Proofs.Tryz.prog 148 #[.pointer (some ⟨ga,0,none⟩),.int .i64 x] w λe w'=>e= .returned (.bool (decide (1<=x/\x<=n)))/\w=w':=by
 go_enter Proofs.Tryz.func148,Proofs.Tryz.ntmps148
 go_wp2
 all_goals refine bodyPost_ret (results_tmp rfl _ _ _) rfl ?_
 all_goals simp_all
 all_goals omega
def aM7(ga gn off n cap:Nat)(x:Int)(w:World)(hc:w.cell? ⟨ga,0,none⟩=some (.slice (some ⟨gn,off,none⟩) n cap))(h1:1<=x)(h2:x<=n)(R7:n<=cap)(hm:cap<=maxLen):
  Calls Proofs.Tryz.prog 152 #[.pointer (some ⟨ga,0,none⟩),.int .i64 x] w λe w'=>e= .returned (.pointer (some ⟨gn,off+(x.toNat-1)*13,none⟩))/\w=w':=by
 have hb:maxLen<=9223372036854775807:=AR;have hw:wrap64 (x-1)=x-1:=Go.IntWalk.wrap64_in _ ⟨Ab,Ab⟩;go_enter Proofs.Tryz.func152,Proofs.Tryz.ntmps152
 go_wp2
 all_goals refine bodyPost_ret (results_tmp rfl _ _ _) rfl ?_
 all_goals exact⟨rfl,rfl⟩
def aM8(ga:Nat)(x:Int)(w:World):
  Calls Proofs.Tryz.prog 353 #[.pointer (some ⟨ga,0,none⟩),.int .i64 x,.bool true] w λe w'=>e= .returned (.func (.func 405) #[] #[.pointer (some ⟨w.heap.size+1,0,none⟩),.pointer (some ⟨w.heap.size,0,none⟩),.pointer (some ⟨w.heap.size+1+1,0,none⟩)])/\
   w'=((w.alloc (.cells #[.pointer (some ⟨ga,0,none⟩)] 74)).alloc (.cells #[.int .i64 x] 3)).alloc (.cells #[.bool true] 4):=by
 have a:∀(fn:Fn) (first cap:Array Value) (w:World),(Instr.makeFunc fn first cap).run Proofs.Tryz.prog w= .ok (.func fn first cap) w:=λ_ _ _ _=>rfl;go_enter Proofs.Tryz.func353,Proofs.Tryz.ntmps353
 go_wp2
 go_ret
 exact⟨rfl,rfl⟩
def ki{cs:List Ad}{off n:Nat}{up:Int}{k:Nat}{b:Bool}(h:NF cs off n up k 0=some b):b=false:=by cases k<;>simp[NF] at h<;>exact h
def kj{cs:List Ad}{off n:Nat}{up x:Int}{k:Nat}{b:Bool}(h:NF cs off n up k x=some b)(hx:x≠0):∃k',k=k'+1/\
  ((x=up/\b=true)\/(x≠up/\1<=x/\x<=n/\∃p q,Ie cs off x 1=some p/\Ie cs off x 12=some q/\NF cs off n up k' (if p=0 then q else p)=some b)):=by
 cases k with
 |zero=>
  rw[NF] at h;. cases h
  .exact λe=>hx e
 |succ k=>
  refine⟨k,rfl,?_⟩;rw[NF] at h
  .split at h;.rename_i e;cases h;exact .inl ⟨e,rfl⟩
   .rename_i e;split at h
    .rename_i hr;split at h;.rename_i p q c a;exact .inr ⟨e,hr.1,hr.2,p,q,c,a,h⟩
     .cases h
    .cases h
  .exact λe=>hx e
structure yO(Ba Bo ga gn off n cap:Nat)(cs:List Ad)(W:World):Prop where
 a:W.cell? ⟨Ba,0,none⟩=some (.pointer (some ⟨ga,0,none⟩))
 o:W.cell? ⟨Bo,0,none⟩=some (.bool true)
 c:W.cell? ⟨ga,0,none⟩=some (.slice (some ⟨gn,off,none⟩) n cap)
 x:∀(h:Int) (k:Nat) (v:Int),1<=h->h<=n->(k=1\/k=12)->Ie cs off h k=some v->W.cell? ⟨gn,off+(h.toNat-1)*13+k,none⟩=some (.int .i64 v)
def yO.Qt{Ba Bo ga gn off n cap:Nat}{cs:List Ad}{A B:World}(h:yO Ba Bo ga gn off n cap cs A)(hk:∀b,b=Ba\/b=Bo\/b=ga\/b=gn->B.heap[b]?=A.heap[b]?):yO Ba Bo ga gn off n cap cs B:=
 ⟨by rw[C9 (hk _ AF)];exact h.a,by rw[C9 (hk _ AF)];exact h.o,by rw[C9 (hk _ AF)];exact h.c,
  λx k v h1 h2 e d=>by rw[C9 (hk _ AF)];exact h.x x k v h1 h2 e d⟩
def vt{Ba Bo ga gn off n cap a:Nat}{cs:List Ad}{A:World}{u:Value}{J:World->Prop}(c:∀A B row,J A->A.grownBy B row->(∀r,row=some r->r=a)->J B)
  (hd:∀b,b=Ba\/b=Bo\/b=ga\/b=gn->b≠a) (hs:yO Ba Bo ga gn off n cap cs A) (hc:A.cell? ⟨a,0,none⟩=some u) (hf:A.frozen? ⟨a,0,none⟩=false) (hj:J A) (v:Value):
  yO Ba Bo ga gn off n cap cs (A.setCell ⟨a,0,none⟩ v)/\(A.setCell ⟨a,0,none⟩ v).cell? ⟨a,0,none⟩=some v/\(A.setCell ⟨a,0,none⟩ v).frozen? ⟨a,0,none⟩=false/\J (A.setCell ⟨a,0,none⟩ v):=
 ⟨hs.Qt λb hb=>Below.heap_setCell _ _ _ b (hd b hb),World.cell?_setCell_same _ _ _ hc,by rw[World.frozen?_setCell];exact hf,c _ _ _ hj (grownBy_setCell' A a v) λr e=>by cases e;rfl⟩
def aM9(m l d Ba Bo n₁ ga gn off n cap:Nat)(cs:List Ad)(up:Int)(J F:World->Prop)
  (D:∀A B row,J A->A.grownBy B row->(∀r,row=some r->r=d)->J B)
  (M:∀x W,J W->YieldAt Fence.wide (m-1) Proofs.Tryz.prog l #[.int .i64 x] W λe W'=>(e= .returned (.bool true)/\J W'/\Below n₁ W W'/\x≠up)\/(e= .returned (.bool false)/\F W'/\x=up))
  (hd:∀b,b=Ba\/b=Bo\/b=ga\/b=gn->b<n₁/\b≠d) (j:d<n₁) (R7:n<=cap) (hm:cap<=maxLen)
  (W:World) (s:Int) (hs:yO Ba Bo ga gn off n cap cs W) (u:W.cell? ⟨d,0,none⟩=some (.int .i64 s)) (hf:W.frozen? ⟨d,0,none⟩=false)
  (fuel:Nat) (b:Bool) (hcl:NF cs off n up fuel s=some b) (h0:J W):
  CallsIn Fence.wide m Proofs.Tryz.prog 405 #[.func (.yield l) #[] #[],.pointer (some ⟨d,0,none⟩),.pointer (some ⟨Ba,0,none⟩),.pointer (some ⟨Bo,0,none⟩)] W λe W'=>(∃v,e= .returned v)/\((b=false/\J W')\/(b=true/\F W')):=by
 refine callsIn_of_wp Proofs.Tryz.func405 rfl trivial ?_ rfl;simp only[Proofs.Tryz.ntmps405,Ci,Bg,BH,Nat.reduceAdd,Nat.reduceSub,Mb,Mc,OG,MP,B4,CS];gi_wp2
 gi_loopg [] fuel (λk wr=>∃x,NF cs off n up k x=some b/\yO Ba Bo ga gn off n cap cs wr/\wr.cell? ⟨d,0,none⟩=some (.int .i64 x)/\wr.frozen? ⟨d,0,none⟩=false/\J wr)
 case atStart=>exact⟨s,hcl,hs,u,hf,h0⟩
 case round=>
  obtain⟨x,hcl,hs,u,hf,hj⟩:=hrel;by_cases hx:x=0
  .subst hx;have:=ki hcl;subst this;gi_wp2
   refine⟨nofun,?_⟩;gi_wp2
   go_end0
   exact⟨⟨_,rfl⟩,hj⟩
  .obtain⟨k',rfl,KA⟩:=kj hcl hx;have hne:(x != 0)=true:=by simp[hx]
   obtain⟨fn,tmps,assign,body,hy,hR⟩:=M x wr hj;gi_wp2
   refine⟨nofun,?_⟩;refine hR.mono ?_;rintro e W3 (⟨rfl,y,gu,g⟩|⟨rfl,i,g⟩)
   .rcases KA with⟨rfl,_⟩|⟨_,h1,h2,p,q,O,N,aI1⟩
    .exact absurd rfl g
    have f:=hs.Qt λb hb=>gu.block b (hd b hb).1;have t:W3.cell? ⟨d,0,none⟩=some (.int .i64 x):=by rw[C9 (gu.block d j)];exact u
    have w:W3.frozen? ⟨d,0,none⟩=false:=by rw[<-hf];simp only[World.frozen?,gu.block d j]
    have hp:=f.x x 1 p h1 h2 (.inl rfl) O;have hq:=f.x x 12 q h1 h2 (.inr rfl) N;have Q:=f.a;have P:=f.o;have I:¬Bo=d:=(hd Bo AF).2;have H:¬gn=d:=(hd gn AF).2;gi_wp2
    refine⟨trivial,nofun,(callsIn_wide.2 (aM7 ga gn off n cap x _ f.c h1 h2 R7 hm)).mono ?_⟩;rintro e w' ⟨rfl,rfl⟩;obtain⟨z,E,z4,C⟩:=vt D (λb hb=>(hd b hb).2) f t w y (.int .i64 p);by_cases h:p=0
    .subst h;obtain⟨G,R,z5,K⟩:=vt D (λb hb=>(hd b hb).2) z E z4 C (.int .i64 q);gi_wp2
     gi_roundg k'
     case measure=>omega
     case rel=>exact⟨q,aI1,G,R,z5,K⟩
    .have L:(p==0)=false:=by simp[h]
     gi_wp2
     gi_roundg k'
     case measure=>omega
     case rel=>exact⟨p,by rw[Aa h] at aI1;exact aI1,z,E,z4,C⟩
   .rcases KA with⟨_,rfl⟩|⟨aSP,_⟩
    .gi_wp2
     go_end0
     exact⟨⟨_,rfl⟩,i⟩
    .exact absurd g aSP
def aI3(n₁:Nat)(up:Int)(I a:World->Prop)(x:Int)(W:World):Exit->Act->World->Prop
 | .normal,_,W'=>KeepsOthers W W'/\Below n₁ W W'/\I W'/\x≠up
 | .ret,_,W'=>KeepsOthers W W'/\a W'/\x=up
 | .exit _,_,_=>False
 | .goto _,_,_=>False
 | .panic _,_,_=>False
 | .outgrown,_,_=>False
def oJ{P:Program}{n gf:Nat}{lb:Array Value}{g:Operand}{ps:Array Tmp}{assign body:Code}{Q:Exit->Act->World->Prop}{a:Act}{w:World}(j:Nat)(b:Bool)(up:Int)
  (hg:a.eval g= .func (.func gf) #[] lb) (E:∀args w,(callFunc gf args).run P w= .ok (.enter gf args) w) (C:j<w.heap.size)
  (aI4:∀(l:Nat) (J y:World->Prop) (W:World),Below w.heap.size w W->(∀A B row,J A->A.grownBy B row->(∀r,row=some r->r=j)->J B)->
   (∀x W1,J W1->YieldAt Fence.wide (n-1 -1) P l #[.int .i64 x] W1 λe W'=>(e= .returned (.bool true)/\J W'/\Below w.heap.size W1 W'/\x≠up)\/(e= .returned (.bool false)/\y W'/\x=up))->J W->
   CallsIn Fence.wide (n-1) P gf (#[.func (.yield l) #[] #[]]++lb) W λe W'=>(∃v,e= .returned v)/\((b=false/\J W')\/(b=true/\y W')))
  (k:ps.size=1) (I i:World->Prop) (hI:∀A B row,I A->A.grownBy B row->(∀r,row=some r->r=j\/w.heap.size<=r)->I B)
  (hIx:∀A B row,i A->A.grownBy B row->(∀r,row=some r->r=j\/w.heap.size<=r)->i B) (h0:I w) (a₁:Int->Act)
  (hassign:∀(l:Nat) (x:Int) (W:World) (K:Act->World->Prop),K (a₁ x) W->
   assign.wpIn (Fence.wide.inRound l) (n-1 -1) P (Exit.then K (λ_ _ _=>False)) {tmps:=(ps.zip #[.int .i64 x]).foldl (λt (p,v)=>t.setIfInBounds p v) a.tmps,defers:=[]} W)
  (cJ:∀(l:Nat) (x:Int) (W:World),I W->body.wpIn (Fence.wide.inRound l) (n-1 -1) P (aI3 w.heap.size up I i x W) (a₁ x) W)
  (Ŷ:∀(D:Nat) (W:World),b=false->I W->W.heap[D]?=some (.deferred (some []))->w.heap.size<=D->Q .normal {a with defers:={target:= .collected D,args:=#[]}::a.defers} W)
  (ŷ:∀(D:Nat) (W:World),b=true->i W->W.heap[D]?=some (.deferred (some []))->w.heap.size<=D->Code.ret.wpIn Fence.wide n P Q {a with defers:={target:= .collected D,args:=#[]}::a.defers} W):
  (Code.rangeFunc g ps assign body).wpIn Fence.wide n P Q a w:=by
 refine wpIn_rangeFunc ?_;intro fn m;have hro:Fence.wide.round=none:=rfl;rw[hro];obtain⟨rec,Zc⟩:∃rec:LoopState->Option Code->Loop,rec=λst z=>{state:=st,pending:=z,fn,tmps:=a.tmps,params:=ps,assign,body,defers:=w.heap.size}:=⟨_,rfl⟩;obtain⟨W1,c⟩:∃W1,(w.alloc (.deferred (some []))).alloc (.loop (rec .ready none))=W1:=⟨_,rfl⟩;have o:W1.heap[w.heap.size+1]?=some (.loop (rec .ready none)):=by rw[<-c];have:=World.alloc_heap_new (w.alloc (.deferred (some []))) (.loop (rec .ready none));rwa [World.size_alloc] at this
 have q:W1.heap[w.heap.size]?=some (.deferred (some [])):=by rw[<-c];exact(Below.heap_alloc _ _ _ AF).trans (World.alloc_heap_new w _)
 have s:I W1:=by rw[<-c];exact hI _ _ none (hI _ _ none h0 (World.grownBy_alloc _ _ none) nofun) (World.grownBy_alloc _ _ none) nofun
 have W8:Below w.heap.size w W1:=by rw[<-c];exact(((Below.refl _ w).alloc (Af _) _).alloc AF _)
 refine⟨w.heap.size+1,[{target:= .collected w.heap.size,args:=#[]}],W1,{target:= .fn (.func gf) lb,args:=#[.func (.yield (w.heap.size+1)) #[] #[]]},W1,gf,
  #[.func (.yield (w.heap.size+1)) #[] #[]]++lb,W1,?_,?_,?_,?_,nofun,?_⟩
 .rw[<-c,Zc];exact run_enterLoop_outer _ _ _ _ _
 .simp only[resolve,hg];simp[go_sem]
 .intro f' Ŧ;trivial
 .simp[invoke,go_sem,E]
 .refine(aI4 (w.heap.size+1)
   (λW=>I W/\W.heap[w.heap.size+1]?=some (.loop (rec .ready none))/\W.heap[w.heap.size]?=some (.deferred (some [])))
   (λW=>i W/\W.heap[w.heap.size+1]?=some (.loop (rec .done (some .ret)))/\W.heap[w.heap.size]?=some (.deferred (some [])))
   W1 W8
   (λA B row hs hg' hr=>⟨hI A B row hs.1 hg' (λr e=> .inl (hr r e)),(hg'.block _ (Bf.1 hs.2.1).1 (λe=>by have:=hr _ e.symm;omega)).trans hs.2.1,
    (hg'.block _ (Bf.1 hs.2.2).1 (λe=>by have:=hr _ e.symm;omega)).trans hs.2.2⟩)
   ?_ ⟨s,o,q⟩).mono ?_
  .rintro x W ⟨hi,hl,hk⟩;have hlt:w.heap.size+1<W.heap.size:=(Bf.1 hl).1;have hy:=run_yield (P:=P) (args:=#[.int .i64 x]) hl (by rw[Zc];exact k.symm);rw[Zc] at hy;refine⟨fn,_,assign,body,hy,roundIn_of_wpIn m (hassign _ x W _ ⟨_,run_beginRound hl (by rw[Zc]),?_⟩)⟩;have Zb:(W.putObj (w.heap.size+1) (.loop {rec .ready none with state:= .busy})).heap[w.heap.size+1]?=some (.loop {rec .ready none with state:= .busy}):=World.putObj_heap_same hlt;have iO:(W.putObj (w.heap.size+1) (.loop {rec .ready none with state:= .busy})).heap[w.heap.size]?=some (.deferred (some [])):=(World.putObj_heap_other Ab).trans hk;have Ť:Below w.heap.size W (W.putObj (w.heap.size+1) (.loop {rec .ready none with state:= .busy})):=belowK_b (Af _) W _ _ _ Ab hl rfl rfl;refine wpIn_mono (cJ _ x _ (hI _ _ _ hi (grownBy_putObj' W _ _) (λr e=> .inr (by cases e;omega)))) ?_;have HT:∀(jump:Option Code) (W3:World),KeepsOthers (W.putObj (w.heap.size+1) (.loop {rec .ready none with state:= .busy})) W3->
     (Instr.endRound (w.heap.size+1) jump).run P W3= .ok (.bool jump.isNone) (W3.putObj (w.heap.size+1) (.loop (rec (if jump.isNone then .ready else .done) jump)))/\
     W3.heap[w.heap.size+1]?=some (.loop {rec .ready none with state:= .busy})/\
     (W3.putObj (w.heap.size+1) (.loop (rec (if jump.isNone then .ready else .done) jump))).heap[w.heap.size+1]?=some (.loop (rec (if jump.isNone then .ready else .done) jump))/\
     (W3.putObj (w.heap.size+1) (.loop (rec (if jump.isNone then .ready else .done) jump))).heap[w.heap.size]?=some (.deferred (some [])):=λjump W3 gu=>by
    have wV:=gu.same _ _ Zb rfl;have:=run_endRound (P:=P) jump wV;rw[Zc] at this⊢;exact⟨this,by rw[Zc] at wV;exact wV,World.putObj_heap_same (Bf.1 wV).1,(World.putObj_heap_other Ab).trans (gu.same _ _ iO rfl)⟩
   rintro e a3 W3 hp;cases e with
   |normal=>obtain⟨gu,aSR,h,hne⟩:=hp;obtain⟨hr,wV,d,f⟩:=HT none W3 gu;exact⟨_,_,hr,.inl ⟨rfl,⟨hI _ _ _ h (grownBy_putObj' W3 _ _) (λr e=> .inr (by cases e;omega)),d,f⟩,(Ť.trans aSR).trans (belowK_b (Af _) W3 _ _ _ Ab wV rfl rfl),hne⟩⟩
   |ret=>obtain⟨gu,h,he⟩:=hp;obtain⟨hr,wV,d,f⟩:=HT (some .ret) W3 gu;exact⟨_,_,hr,.inr ⟨rfl,⟨hIx _ _ _ h (grownBy_putObj' W3 _ _) (λr e=> .inr (by cases e;omega)),d,f⟩,he⟩⟩
   |exit id=>exact hp.elim
   |goto t=>exact hp.elim
   |panic F=>exact hp.elim
   |outgrown=>exact hp.elim
  .rintro e u ⟨⟨v,rfl⟩,⟨hb,hi,hl,hk⟩|⟨hb,hi,hl,hk⟩⟩;.exact⟨none,_,by have:=run_endLoop (P:=P) hl (by rw[Zc];simp);rw[Zc] at this;exact this,Ŷ _ _ hb (hI _ _ _ hi (grownBy_putObj' u _ _) (λr e=> .inr (by cases e;omega))) ((World.putObj_heap_other Ab).trans hk) (Af _)⟩
   .exact⟨some .ret,_,by have:=run_endLoop (P:=P) hl (by rw[Zc];simp);rw[Zc] at this;exact this,ŷ _ _ hb (hIx _ _ _ hi (grownBy_putObj' u _ _) (λr e=> .inr (by cases e;omega))) ((World.putObj_heap_other Ab).trans hk) (Af _)⟩
def Da{W:World}{k j:Nat}{v:Value}(o:Obj)(h:W.cell? ⟨k,j,none⟩=some v):(W.alloc o).cell? ⟨k,j,none⟩=some v:=by rw[World.cell?_alloc_past _ _ _ (Ek h)];exact h
def MW{W:World}{k j:Nat}{v:Value}(o:Obj)(h:W.cell? ⟨k,j,none⟩=some v):(W.alloc o).frozen? ⟨k,j,none⟩=W.frozen? ⟨k,j,none⟩:=
 World.frozen?_alloc_past _ _ _ (Ek h)
def N0(W:World)(v:Value)(t:TypeId):(W.alloc (.cells #[v] t)).cell? ⟨W.heap.size,0,none⟩=some v/\(W.alloc (.cells #[v] t)).frozen? ⟨W.heap.size,0,none⟩=false:=by
 have h:(W.alloc (.cells #[v] t)).heap[W.heap.size]?=some (.cells #[v] t (0,0)):=World.alloc_heap_new W _;constructor;.simp only[World.cell?,h];rfl
 .simp only[World.frozen?,h];rfl
def cO{A B:World}{row:Option Nat}{k:Nat}{v:Value}(h:A.cell? ⟨k,0,none⟩=some v)(hg:A.grownBy B row)(hr:∀r,row=some r->k≠r):
  B.cell? ⟨k,0,none⟩=some v/\B.frozen? ⟨k,0,none⟩=A.frozen? ⟨k,0,none⟩:=by
 have hb:B.heap[k]?=A.heap[k]?:=hg.block k (Ek h) (λe=>hr k e.symm rfl);exact⟨by rw[C9 hb];exact h,by simp only[World.frozen?,hb]⟩
def aI5(ga gn off n cap:Nat)(cs:List Ad)(up x:Int)(w:World)(o:ga<w.heap.size)(E:gn<w.heap.size)(R7:n<=cap)(hm:cap<=maxLen)
  (hc:w.cell? ⟨ga,0,none⟩=some (.slice (some ⟨gn,off,none⟩) n cap))
  (hx:∀(h:Int) (k:Nat) (v:Int),1<=h->h<=n->(k=1\/k=12)->Ie cs off h k=some v->w.cell? ⟨gn,off+(h.toNat-1)*13+k,none⟩=some (.int .i64 v))
  (b:Bool) (hcl:NF cs off n up (n+1) x=some b) (Rx:1<=up) (JK:up<=n) (Rz:1<=x) (oK:x<=n):
  Calls Proofs.Tryz.prog 231 #[.pointer (some ⟨ga,0,none⟩),.int .i64 up,.int .i64 x] w λe w'=>e= .returned (.bool b)/\Below w.heap.size w w':=by
 refine(callsIn_wide (n:=5)).1 ?_;refine callsIn_of_wp_marks Proofs.Tryz.func231 rfl trivial ?_;simp only[Proofs.Tryz.ntmps231,Ci,Bg,BH,Nat.reduceAdd,Nat.reduceSub,Mb,Mc,OG,MP,B4,CS];have s:((w.alloc (.cells #[.int .i64 up] 3)).alloc (.cells #[.bool false] 4)).cell? ⟨ga,0,none⟩=some (.slice (some ⟨gn,off,none⟩) n cap):=by rw[World.cell?_alloc_past _ _ _ ES,World.cell?_alloc_past _ _ _ o];exact hc
 have z:=N0 w (.int .i64 up) 3;have d:=N0 (w.alloc (.cells #[.int .i64 up] 3)) (.bool false) 4;have u:=N0 ((w.alloc (.cells #[.int .i64 up] 3)).alloc (.cells #[.bool false] 4)) (.pointer (some ⟨ga,0,none⟩)) 74;have i:=N0 (((w.alloc (.cells #[.int .i64 up] 3)).alloc (.cells #[.bool false] 4)).alloc (.cells #[.pointer (some ⟨ga,0,none⟩)] 74)) (.int .i64 x) 3;have t:=N0 ((((w.alloc (.cells #[.int .i64 up] 3)).alloc (.cells #[.bool false] 4)).alloc (.cells #[.pointer (some ⟨ga,0,none⟩)] 74)).alloc (.cells #[.int .i64 x] 3)) (.bool true) 4;simp only[World.size_alloc] at d u i t;have I:decide (1<=up/\up<=n)=true:=Ah ⟨Rx,JK⟩;have H:decide (1<=x/\x<=n)=true:=Ah ⟨Rz,oK⟩;gi_wp2
 refine⟨trivial,(callsIn_wide.2 (lB ga _ n cap up _ s)).mono ?_⟩;rintro e w' ⟨rfl,rfl⟩;rw[I];gi_wp2
 refine⟨trivial,(callsIn_wide.2 (lB ga _ n cap x _ s)).mono ?_⟩;rintro e w' ⟨rfl,rfl⟩;rw[H];gi_wp2
 refine⟨trivial,(callsIn_wide.2 (aM8 ga x _)).mono ?_⟩;rintro e w' ⟨rfl,rfl⟩;gi_wp2
 refine oJ (gf:=405) (lb:=#[.pointer (some ⟨w.heap.size+1+1+1,0,none⟩),.pointer (some ⟨w.heap.size+1+1,0,none⟩),.pointer (some ⟨w.heap.size+1+1+1+1,0,none⟩)]) (w.heap.size+1+1+1) b up rfl (Go.Proofs.enters_of Proofs.Tryz.func405 Dv rfl) AF
  ?aI4 rfl
  (λW=>Below w.heap.size w W/\W.cell? ⟨w.heap.size,0,none⟩=some (.int .i64 up)/\W.cell? ⟨w.heap.size+1,0,none⟩=some (.bool false)/\W.frozen? ⟨w.heap.size+1,0,none⟩=false)
  (λW=>Below w.heap.size w W/\W.cell? ⟨w.heap.size+1,0,none⟩=some (.bool true)) ?hI ?hIx ?h0
  (λy=>{tmps:=#[.pointer (some ⟨ga,0,none⟩),.int .i64 up,.int .i64 x,undef,.pointer (some ⟨w.heap.size,0,none⟩),undef,.pointer (some ⟨w.heap.size+1,0,none⟩),.int .i64 y,.pointer (some ⟨ga,0,none⟩),.int .i64 up,.bool true,.bool false,.bool false,.pointer (some ⟨ga,0,none⟩),.int .i64 x,.bool true,.bool false,.bool false,.pointer (some ⟨ga,0,none⟩),.int .i64 x,.func (.func 405) #[] #[.pointer (some ⟨w.heap.size+1+1+1,0,none⟩),.pointer (some ⟨w.heap.size+1+1,0,none⟩),.pointer (some ⟨w.heap.size+1+1+1+1,0,none⟩)],.int .i64 y,undef,undef,undef],defers:=[]})
  ?hassign ?cJ ?Ŷ ?ŷ
 case hI=>rintro A B row ⟨h1,h2,c,q⟩ hg hr;have KP:=Ek c;have C:=cO h2 hg (λr e=>by rcases hr r e with rfl|h<;>simp at* <;>omega);have m:=cO c hg (λr e=>by rcases hr r e with rfl|h<;>simp at* <;>omega);exact⟨h1.grown hg Ab (λk e=>by rcases hr k e with rfl|h<;>simp at* <;>omega),C.1,m.1,m.2.trans q⟩
 case hIx=>rintro A B row ⟨h1,c⟩ hg hr;have KP:=Ek c;have m:=cO c hg (λr e=>by rcases hr r e with rfl|h<;>simp at* <;>omega);exact⟨h1.grown hg Ab (λk e=>by rcases hr k e with rfl|h<;>simp at* <;>omega),m.1⟩
 case h0=>
  refine⟨(((((Below.refl _ w).alloc (Af _) _).alloc AF _).alloc ES _).alloc ES _).alloc ES _,?_,?_,?_⟩;.exact Da _ (Da _ (Da _ (Da _ z.1)))
  .exact Da _ (Da _ (Da _ d.1))
  .rw[MW _ (Da _ (Da _ d.1)),MW _ (Da _ d.1),MW _ d.1];exact d.2
 case aI4=>
  intro l J L W hW G F hj;have kk:∀{k j:Nat} {v:Value},(((((w.alloc (.cells #[.int .i64 up] 3)).alloc (.cells #[.bool false] 4)).alloc (.cells #[.pointer (some ⟨ga,0,none⟩)] 74)).alloc (.cells #[.int .i64 x] 3)).alloc (.cells #[.bool true] 4)).cell? ⟨k,j,none⟩=some v->W.cell? ⟨k,j,none⟩=some v:=
   λ{k j v} h=>by rw[C9 (hW.block k (Ek h))];exact h
  have hs:yO (w.heap.size+1+1) (w.heap.size+1+1+1+1) ga gn off n cap cs W:=
   ⟨kk (Da _ (Da _ u.1)),kk t.1,kk (Da _ (Da _ (Da _ s))),λh k v h1 h2 c q=>kk (Da _ (Da _ (Da _ (Da _ (Da _ (hx h k v h1 h2 c q))))))⟩
  refine aM9 4 l (w.heap.size+1+1+1) (w.heap.size+1+1) (w.heap.size+1+1+1+1) _ ga gn off n cap cs up J L G F ?_ AF R7 hm W x hs (kk (Da _ i.1)) ?_ (n+1) b hcl hj;.rintro b (rfl|rfl|rfl|rfl)<;>simp<;>omega
  .have:W.frozen? ⟨w.heap.size+1+1+1,0,none⟩=_:=World.frozen?_of_block (hW.block (w.heap.size+1+1+1) AF);rw[this,MW _ i.1];exact i.2
 case hassign=>
  intro l y W K f;have aST:=Oper.semAt_some l;gi_wp2
  exact f
 case cJ=>
  rintro l y W ⟨hb,Vb,KB,ĝ⟩;have aST:=Oper.semAt_some l;gi_wp2
  .rename_i he;obtain rfl:y=up:=eq_of_beq he;exact⟨KeepsOthers.setCell _ _ _,⟨hb.setCell (Gd _) _,World.cell?_setCell_same _ _ _ KB⟩,rfl⟩
  .rename_i he;exact⟨KeepsOthers.refl _,Below.refl _ _,⟨hb,Vb,KB,ĝ⟩,λe=>by subst e;simp at he⟩
 case Ŷ=>
  rintro D W rfl ⟨hb,Vb,KB,ĝ⟩ f p;gi_wp2
  have g:=(KeepsOthers.setCell W ⟨w.heap.size+1,0,none⟩ (.bool false)).same D _ f rfl;have a:=cell_kept (World.cell?_setCell_same W ⟨w.heap.size+1,0,none⟩ (.bool false) KB) (grownBy_putObj' _ D (.deferred none)) (λr e=>by cases e;exact⟨_,g,rfl⟩);refine⟨AF,.inl ⟨_,_,rfl,run_takeDeferred g,?_⟩⟩;refine⟨.bool false,?_,rfl,(hb.setCell (Gd _) _).grown (grownBy_putObj' _ D _) (by have:=Ek KB;simp;omega) (λk e=>by cases e;simp at p;omega)⟩;simp[results,Proofs.Tryz.f231,go_sem,a]
 case ŷ=>
  rintro D W rfl ⟨hb,KB⟩ f p;gi_wp2
  have a:=cell_kept KB (grownBy_putObj' _ D (.deferred none)) (λr e=>by cases e;exact⟨_,f,rfl⟩);refine⟨AF,.inl ⟨_,_,rfl,run_takeDeferred f,?_⟩⟩;refine⟨.bool true,?_,rfl,hb.grown (grownBy_putObj' _ D _) (by have:=Ek KB;omega) (λk e=>by cases e;simp at p;omega)⟩;simp[results,Proofs.Tryz.f231,go_sem,a]
def cP(ga:Nat)(p:Option Addr)(n cap:Nat)(up x:Int)(w:World)(hc:w.cell? ⟨ga,0,none⟩=some (.slice p n cap))(ho:¬(1<=up/\up<=n/\1<=x/\x<=n)):
  Calls Proofs.Tryz.prog 231 #[.pointer (some ⟨ga,0,none⟩),.int .i64 up,.int .i64 x] w λe w'=>e= .returned (.bool false)/\Below w.heap.size w w':=by
 have c:((w.alloc (.cells #[.int .i64 up] 3)).alloc (.cells #[.bool false] 4)).cell? ⟨ga,0,none⟩=some (.slice p n cap):=Da _ (Da _ hc);have a:=N0 (w.alloc (.cells #[.int .i64 up] 3)) (.bool false) 4;simp only[World.size_alloc] at a;have hb:Below w.heap.size w ((w.alloc (.cells #[.int .i64 up] 3)).alloc (.cells #[.bool false] 4)):=((Below.refl _ w).alloc (Af _) _).alloc AF _;refine(callsIn_wide (n:=5)).1 ?_;refine callsIn_of_wp Proofs.Tryz.func231 rfl trivial ?_ rfl;simp only[Proofs.Tryz.ntmps231,Ci,Bg,BH,Nat.reduceAdd,Nat.reduceSub,Mb,Mc,OG,MP,B4,CS];by_cases h1:1<=up/\up<=n
 .have b:decide (1<=up/\up<=n)=true:=Ah h1;have d:decide (1<=x/\x<=n)=false:=Ag λh2=>ho ⟨h1.1,h1.2,h2.1,h2.2⟩;gi_wp2
  refine⟨trivial,(callsIn_wide.2 (lB ga _ n cap up _ c)).mono ?_⟩;rintro e w' ⟨rfl,rfl⟩;rw[b];gi_wp2
  refine⟨trivial,(callsIn_wide.2 (lB ga _ n cap x _ c)).mono ?_⟩;rintro e w' ⟨rfl,rfl⟩;rw[d];gi_wp2
  refine bodyPost_ret (v:= .bool false) ?_ rfl ⟨rfl,hb⟩;simp[results,Proofs.Tryz.f231,go_sem,a.1]
 .have b:decide (1<=up/\up<=n)=false:=Ag h1;gi_wp2
  refine⟨trivial,(callsIn_wide.2 (lB ga _ n cap up _ c)).mono ?_⟩;rintro e w' ⟨rfl,rfl⟩;rw[b];gi_wp2
  refine⟨trivial,?_⟩;gi_wp2
  refine bodyPost_ret (v:= .bool false) ?_ rfl ⟨rfl,hb⟩;simp[results,Proofs.Tryz.f231,go_sem,a.1]
section
variable{h:Ak}
def oL{cs:List Ad}{off:Nat}{x:Int}{k:Nat}{v:Int}(e:Ie cs off x k=some v):cs[off+(x.toNat-1)*13+k]?=some (.int .i64 v):=by
 unfold Ie at e;split at e;.rename_i a;cases e;exact a
 .cases e
def aDC(n:Nat)(args:List Ad)(r:Ad)(h':Ak)(Bd:IT.step (Cf cx) (IT.run (Cf cx) n) (PK args) h=some (.ret,[r],h')):
  (∃fn c,cx.P.funcs[Fq 231]?=some fn/\(fn.name== "runtime.NumGoroutine")=false/\fn.body=some c)/\
  ∀(U:Gh) (w:World) (cargs:Array Value),IA U h w->(∀g cs,cx.IF g=some cs->Dr U cs g 0)->Bt U args cargs.toList->
   Calls cx.P (Fq 231) cargs w λe w'=>match e with
    | .returned v=>∃d,IA d h' w'/\M7 U w d w'/\B3 d r v/\(cx.KG 231=true->∃s c,Kk d w.heap.size w' s c v r)
    |_=>False:=by
 refine⟨⟨_,_,Proofs.Tryz.func231,rfl,rfl⟩,λU w cargs hi hg ha=>?_⟩;simp only[PK,IT.step,EH] at Bd;cases e0:PJ h args with
 |none=>simp[e0] at Bd
 |some H=>
 obtain⟨h1,J⟩:=H;simp only[e0] at Bd;cases Bd;have HT:∀(b:Bool) (cs:Array Value),h'=h->r= .bool b->Calls Proofs.Tryz.prog 231 cs w (λe w'=>e= .returned (.bool b)/\Below w.heap.size w w')->
   Calls cx.P (Fq 231) cs w λe w'=>match e with
    | .returned v=>∃d,IA d h' w'/\M7 U w d w'/\B3 d r v/\(cx.KG 231=true->∃s c,Kk d w.heap.size w' s c v r)
    |_=>False:=by
  rintro b cs rfl rfl hc;refine hc.mono λe w' he=>?_;obtain⟨rfl,hb⟩:=he;obtain⟨Zy,Ry⟩:=hi.Nc hb;exact⟨U,Zy,Ry,rfl,λe=>by cases e⟩
 unfold PJ at e0;split at e0
 .rename_i id up x;obtain⟨v0,us,o,⟨g,hm,rfl⟩,I,q,rfl,rfl,v2,ir,rfl,rfl,hnil⟩:=ha;cases hnil;have a:cargs=#[.pointer (some ⟨g,0,none⟩),.int .i64 up,.int .i64 x]:=by apply IV;simpa using o
  subst a;split at e0;.rename_i l hc;cases e0;obtain⟨_,y,hy,A⟩:=hi.VJ hc hm (j:=0) rfl;cases A;exact HT false _ rfl rfl (cP g none 0 0 up x w hy Ab)
  .rename_i F off len l hc;split at e0
   .rename_i cs hcs;split at e0
    .rename_i hl;obtain⟨_,y,hy,gn,cap,f,rfl,D,⟨K,C⟩,B⟩:=hi.VJ hc hm (j:=0) rfl;have m:g<w.heap.size:=Ek hy;have i:gn<w.heap.size:=by obtain⟨⟨us,e,fr,E,L⟩,_⟩:=hi.sz gn _ B;exact(Bf.1 E).1
     split at e0
     .rename_i hr;cases p:NF cs off len up (len+1) x with
      |none=>simp[p] at e0
      |some b=>simp only[p,Cb,BN,K6] at e0;obtain⟨rfl,rfl⟩:=e0;refine HT b _ rfl rfl (aI5 g gn off len cap cs up x w m i D C hy (λt k v h1 h2 M G=>?_) b p hr.1 hr.2.1 hr.2.2.1 hr.2.2.2);obtain⟨_,z,hz,u⟩:=hi.VJ hcs f (oL G);cases u;exact hz
     .rename_i hr;cases e0;exact HT false _ rfl rfl (cP g _ len cap up x w hy hr)
    .cases e0
   .cases e0
  .cases e0
 .cases e0
end
def Rj{T e:TypeId}{B b:Nat}{bs:List Value}{W W':World}(h:Lib.IsBuilder T e B b bs W)(hb:Below W.heap.size W W'):Lib.IsBuilder T e B b bs W':=by
 have key:∀p,Lib.BuilderAt T e B b p bs W->Lib.BuilderAt T e B b p bs W':=λp ⟨hB,v,a,GQ,hne⟩=>by refine⟨hB,v,(hb.block b (Bf.1 a).1).trans a,?_,hne⟩;exact GQ.kept (row:=none) ⟨hb.os,hb.tape,hb.output,hb.size,λk hk _=>hb.block k hk⟩ (Classical.em _)
 exact h.imp (key _) (key _)
def MD(a b:List UInt8):Lib.byteCells (a++b)=Lib.byteCells a++Lib.byteCells b:=by simp[Lib.byteCells]
def byteCells_length(a:List UInt8):(Lib.byteCells a).length=a.length:=by simp[Lib.byteCells]
def kq(d:Nat):Lib.repeatL [32,32] d=List.replicate (2*d) 32:=by
 induction d with
 |zero=>rfl
 |succ d ih=>rw[Lib.repeatL,ih,(Ab:2*(d+1)=2*d+1+1),MN,MN];rfl
def ku:∀a:Ad,a.OJ=true->a.still=true
 | .bool _,_=>rfl
 | .int _ _,_=>rfl
 | .str _,_=>rfl
 |a,h=>by cases a<;>first|rfl|simp[Ad.OJ] at h
def Yu:∀l:List Ad,l.all Ad.OJ=true->Lb l=true
 |[],_=>rfl
 |a::l,h=>by simp only[nC,Bs] at h;simp only[Lb,Bs];exact⟨ku a h.1,Yu l h.2⟩
section
variable{U:Gh}{h:Ak}{w:World}
def yP(hi:IA U h w){id g:Nat}{cs:List Ad}(hc:h[id]?=some (.cells cs))(hm:U.mu id=some g):∀(n o:Nat),o+n<=cs.length->OX (CP cs 1 o n)=true->
  (CP cs 1 o n).length=n/\GJ (HF w) (CP cs 1 o n) 1 g o
 |0,o,_,_=>⟨rfl,trivial⟩
 |n+1,o,hl,hs=>by
  have hlt:o<cs.length:=Ab;have a:(cs.drop o).take 1=[cs[o]]:=by rw[AI hlt];rfl
  have kG:Lb ((cs.drop o).take 1)=true/\OX (CP cs 1 (o+1) n)=true:=by simpa only[CP,OX,Bs] using hs
  obtain⟨p,q⟩:=yP hi hc hm n (o+1) Ab kG.2;rw[a] at kG;have I3:cs[o].still=true:=by simpa[Lb] using kG.1
  obtain⟨u,hu,h1,hr⟩:=PM hi hc hm (Ap hlt);refine⟨by simp[CP,p],?_⟩;simp only[CP,a];exact⟨rfl,⟨⟨u,Xt hu h1,B3.mem hi _ _ I3 hr⟩,trivial⟩,q⟩
def oM(w:World)(b o:Nat)(Bj:List (List Ad)):Prop:=
 ∃v,w.cell? ⟨b,o,none⟩=some v/\((v= .slice none 0 0/\Bj=[])\/
  (∃a c cap,v= .slice (some ⟨a,c,none⟩) Bj.length cap/\Bj.length<=cap/\cap<=maxLen/\a<w.heap.size/\GJ (HF w) Bj 1 a c))
def Ÿ(hi:IA U h w){id g:Nat}(hm:U.mu id=some g){x:Int}{h1:Ak}{r:Ad}(e:Ì h [.ptr (some (id,0)),.int .i64 x]=some (h1,r)):
  h1=h/\∃gn off n cap row c Bj,r= .tuple [.CO row,.int .i64 c,.sl 1 Bj]/\g<w.heap.size/\gn<w.heap.size/\w.cell? ⟨g,0,none⟩=some (.slice (some ⟨gn,off,none⟩) n cap)/\n<=cap/\cap<=maxLen/\
   1<=x/\x<=n/\Dr (HF w) row gn (off+(x.toNat-1)*13)/\w.cell? ⟨gn,off+(x.toNat-1)*13+11,none⟩=some (.int .i64 c)/\oM w gn (off+(x.toNat-1)*13+2) Bj:=by
 unfold Ì at e;split at e
 .rename_i Hd x' OR;cases OR;split at e
  .rename_i nid off n l hc;split at e
   .rename_i cs hcs;split at e
    .rename_i hx;split at e
     .rename_i C B K A z v t s q p Uz c oE hrow;split at e
      .rename_i I3;simp only[Lb,Bs,OD] at I3;obtain⟨s0,W,V,T,S,R,Q,P,O,E,D⟩:=I3;obtain⟨_,y,hy,gn,cap,d,rfl,N,⟨q2,M⟩,Z⟩:=hi.VJ hc hm (j:=0) rfl;have f:gn<w.heap.size:=by obtain⟨⟨us,e,fr,F,p2⟩,_⟩:=hi.sz gn _ Z;exact(Bf.1 F).1
       have get:∀(j:Nat) (a:Ad),j<13->[C,B,K,A,z,v,t,s,q,p,Uz,.int .i64 c,oE][j]?=some a->cs[off+(x.toNat-1)*13+j]?=some a:=λj a hj ha=>by rw[<-hrow,D7 hj,CF] at ha;exact ha
       have key:∀(j:Nat) (a:Ad),j<13->[C,B,K,A,z,v,t,s,q,p,Uz,.int .i64 c,oE][j]?=some a->a.still=true->∃u,(HF w).JJ gn (off+(x.toNat-1)*13+j)=some u/\B3 (HF w) a u:=λj a hj ha hs=>by obtain⟨u,hu,ho,hr⟩:=PM hi hcs d (get j a hj ha);exact⟨u,Xt hu ho,B3.mem hi _ _ hs hr⟩
       have Tj:w.cell? ⟨gn,off+(x.toNat-1)*13+11,none⟩=some (.int .i64 c):=by obtain⟨u,hu,_,hr⟩:=PM hi hcs d (get 11 _ Ab rfl);cases hr;exact hu
       obtain⟨u2,JK,i7,Na⟩:=PM hi hcs d (get 2 K Ab rfl);have mk:∀(G:Ad),(∃u,(HF w).JJ gn (off+(x.toNat-1)*13+2)=some u/\B3 (HF w) G u)->Dr (HF w) [C,B,G,A,z,v,t,s,q,p,Uz,.int .i64 c,oE] gn (off+(x.toNat-1)*13):=λG h2=>⟨key 0 C Ab rfl s0,key 1 B Ab rfl W,h2,key 3 A Ab rfl V,key 4 z Ab rfl T,key 5 v Ab rfl S,key 6 t Ab rfl R,key 7 s Ab rfl Q,key 8 q Ab rfl P,key 9 p Ab rfl O,key 10 Uz Ab rfl E,key 11 _ Ab rfl rfl,key 12 oE Ab rfl D,trivial⟩
       have hg:=Ek hy;split at e;.cases e;cases Na;exact⟨rfl,gn,off,n,cap,_,c,[],rfl,hg,f,hy,N,M,hx.1,hx.2.1,mk _ ⟨_,Xt JK i7,rfl⟩,Tj,_,JK,.inl ⟨rfl,rfl⟩⟩
       .rename_i OL k m;split at e
        .rename_i ks I;split at e
         .rename_i hk;cases e;obtain⟨o,b,H,rfl,L,⟨r2,Y⟩,X⟩:=Na;obtain⟨i,t2⟩:=yP hi I H m k Ab hk.2;have J:o<w.heap.size:=by obtain⟨⟨us,e,fr,F,p2⟩,_⟩:=hi.sz o _ X;exact(Bf.1 F).1
          refine⟨rfl,gn,off,n,cap,_,c,CP ks 1 k m,rfl,hg,f,hy,N,M,hx.1,hx.2.1,mk _ ⟨_,Xt JK i7,⟨o,k,none⟩,b,by rw[i],by rw[i];exact L,.inl rfl,t2⟩,Tj,_,JK,.inr ⟨o,k,b,by rw[i],by rw[i];exact L,Y,J,t2⟩⟩
         .cases e
        .cases e
       .cases e
      .cases e
     .cases e
    .cases e
   .cases e
  .cases e
 .cases e
def aDE{n:Nat}(hs:F9 cx (IT.run (Cf cx) n))(hi:IA U h w)(hg:∀g cs,cx.IF g=some cs->Dr U cs g 0){row:List Ad}{s:Aj}{h1:Ak}(e:IT.run (Cf cx) n (Cf cx 294 [.CO row]) []=some (.ret,[.str s],h1))
  {W:World} (hb:Below w.heap.size w W) {gn o:Nat} (hr:Dr (HF w) row gn o):
  Calls Proofs.Tryz.prog 294 #[.pointer (some ⟨gn,o,none⟩)] W λe W'=>e= .returned (.string ⟨⟨s⟩⟩)/\Below W.heap.size W W':=by
 refine((hs.2 294 _ _ _ _ e).2 (HF W) W #[.pointer (some ⟨gn,o,none⟩)] (Ű W) (λg cs a=>Dr.mono (yK hb) cs g 0 (Dr.mem hi cs g 0 (Yu cs (hs.1.1 g cs a)) (hg g cs a)))
  ⟨_,_,rfl,⟨gn,o,rfl,Dr.mono (yK hb) row gn o hr⟩,rfl⟩).mono λe W' he=>?_
 cases e with
 |returned v=>obtain⟨b,_,ha,hv,_⟩:=he;cases hv;exact⟨rfl,ha.os,ha.tape,ha.output,ha.size,λk hk=>(ha.Qt k hk (λid=>by simp[HF])).1⟩
 |_=>exact he.elim
end
def aDF{w:World}{b o:Nat}{Bj:List (List Ad)}(h:oM w b o Bj):∃p cap,w.cell? ⟨b,o,none⟩=some (.slice p Bj.length cap)/\Bj.length<=cap/\cap<=maxLen/\
  ∀(i:Nat) (y:Int),Bj[i]?=some [.int .i64 y]->∃a c,p=some ⟨a,c,none⟩/\a<w.heap.size/\w.cell? ⟨a,c+i,none⟩=some (.int .i64 y):=by
 obtain⟨v,hv,⟨rfl,rfl⟩|⟨a,c,cap,rfl,h1,h2,e,d⟩⟩:=h;.exact⟨none,0,hv,Af _,AR,λi y hi=>by simp at hi⟩
 .refine⟨_,cap,hv,h1,h2,λi y hi=>⟨a,c,rfl,e,?_⟩⟩;obtain⟨_,⟨u,hu,hr⟩,_⟩:=GJ.get d hi;cases hr;have:=hu;simp only[HF,TS] at this;simpa using this.1
def yQ(l:List UInt8):Lib.strCells ⟨l.toArray⟩=Lib.byteCells l:=by simp[Lib.strCells,Lib.byteCells]
def oN(l:List UInt8):Lib.strCells ⟨⟨l⟩⟩=Lib.byteCells l:=by simp[Lib.strCells,Lib.byteCells]
def kx(i n:Nat)(h:i<n)(hn:n<=9223372036854775807):wrap64 ((i:Int)+1)=((i+1:Nat):Int):=by rw[Go.IntWalk.wrap64_in _ ⟨Ab,Ab⟩];omega
def lC(d:Nat)(h:d<=1000):wrap64 ((d:Int)+1)=((d+1:Nat):Int):=by rw[Go.IntWalk.wrap64_in _ ⟨Ab,Ab⟩];omega
abbrev Ĥ(g:Nat)(w0:World)(x:Int)(d:Nat)(Ex UA:Aj):Prop:=
 ∀(B b:Nat) (W:World),w0.heap.size<=B->B<=W.heap.size->Below w0.heap.size w0 W->Lib.IsBuilder 164 5 B b (Lib.byteCells Ex) W->
  Calls Proofs.Tryz.prog 149 #[.pointer (some ⟨g,0,none⟩),.pointer (some ⟨b,0,none⟩),.int .i64 x,.int .i64 d] W λe W'=>(∃v,e= .returned v)/\Lib.IsBuilder 164 5 B b (Lib.byteCells UA) W'/\Below B W W'
def Ñ{p:Prop}(h:p):Hid p:=h
def Oe{w0 W':World}{k j:Nat}{v:Value}(hb:Below w0.heap.size w0 W')(h:w0.cell? ⟨k,j,none⟩=some v):W'.cell? ⟨k,j,none⟩=some v:=by rw[C9 (hb.block k (Ek h))];exact h
def ky:Code->Code
 | .seq _ c=>ky c
 | .block _ c=>c
 |c=>c
noncomputable def Ź:Code:=match Proofs.Tryz.f149.body with
 |some c=>ky c
 |none=> .skip
def ź{w0 W W6:World}{g B b d a:Nat}{p:Option Addr}{Bj:List (List Ad)}(hB:w0.heap.size<=B)(j:B<=W.heap.size)(hb:Below w0.heap.size w0 W)(hd:d<=1000)
  (iO:Bj.length<=a) (gu:a<=maxLen) (h:∀(i:Nat) (y:Int),Bj[i]?=some [.int .i64 y]->∃m ko,p=some ⟨m,ko,none⟩/\m<w0.heap.size/\w0.cell? ⟨m,ko+i,none⟩=some (.int .i64 y))
  (f:Nat->Aj) (hf:∀i,i<Bj.length->∃y,Bj[i]?=some [.int .i64 y]/\Ĥ g w0 y (d+1) (f i) (f (i+1))) (l:Below B W W6) (l6:Lib.IsBuilder 164 5 B b (Lib.byteCells (f 0)) W6)
  (z2 z4 z5 z6 z7 z8 z9 z10 z11 z12 z13 z14 z15 z16 Z Y X z20 V z22 U T S R Q P O N M L K J I H z37 G F E D C A z x w u z51 t z53 s r q o n:Value):
  Ź.wpIn Fence.wide 5 Proofs.Tryz.prog (Exit.inBlock 0<|bodyPost Proofs.Tryz.prog Proofs.Tryz.f149 λe W'=>(∃v,e= .returned v)/\Lib.IsBuilder 164 5 B b (Lib.byteCells (f Bj.length)) W'/\Below B W W')
   {tmps:=#[.pointer (some ⟨g,0,none⟩),.pointer (some ⟨b,0,none⟩),z2,.int .i64 d,z4,z5,z6,z7,z8,z9,z10,z11,z12,z13,z14,z15,z16,Z,Y,X,z20,V,z22,U,T,S,R,Q,P,O,N,M,L,K,J,I,H,z37,G,F,E,D,C,A,z,x,.slice p Bj.length a,.int .i64 Bj.length,.int .i64 0,w,u,z51,t,z53,s,r,q,o,n],defers:=[]} W6:=by
 simp only[Ź,ky,Proofs.Tryz.f149];gi_loopg [48] Bj.length (λk v wr=>∃i,i<=Bj.length/\k=Bj.length-i/\v= .int .i64 (i:Nat)/\Below B W wr/\Lib.IsBuilder 164 5 B b (Lib.byteCells (f i)) wr)
 case atStart=>exact⟨0,AZ _,rfl,rfl,l,l6⟩
 case round=>
  obtain⟨i,hi,rfl,rfl,bbi,li⟩:=hrel;by_cases hlt:i<Bj.length
  .obtain⟨y,hy,aHb⟩:=hf i hlt;obtain⟨m,ko,rfl,hgk,Lu⟩:=h i y hy;have c:Below w0.heap.size w0 wr:=hb.trans (bbi.mono hB);have ci:=Oe c Lu;have aZD:(i:Int)<(Bj.length:Int):=by exact_mod_cast hlt
   have hwi:=kx i _ hlt (BC iO gu);have hwd:=lC d hd;have Zw:=aHb B b _ hB (BC j bbi.size) c li;clear aHb hf h iO gu c li l6 l Lu hy hgk hB j hb;rw[show((d+1:Nat):Int)=(d:Int)+1 from rfl] at Zw;gi_wp2
   refine⟨trivial,(callsIn_wide.2 Zw).mono ?_⟩;rintro e W7 ⟨⟨v,rfl⟩,l7,b7⟩;gi_wp2
   gi_roundg (Bj.length-(i+1))
   case measure=>exact Nat.sub_lt_sub_left hlt (Ps i)
   case rel=>refine⟨i+1,hlt,rfl,?_,bbi.trans b7,l7⟩;first|rfl|exact Cx (Value.int .i64) hwi
  .obtain rfl:i=Bj.length:=Nat.le_antisymm hi (Nat.le_of_not_lt hlt);gi_wp2
   go_end0
   exact⟨⟨_,rfl⟩,li,bbi⟩
def aI7{w0:World}{g gn off n cap:Nat}{c x:Int}{Bj:List (List Ad)}(V:g<w0.heap.size)(X:gn<w0.heap.size)(hc:w0.cell? ⟨g,0,none⟩=some (.slice (some ⟨gn,off,none⟩) n cap))(R7:n<=cap)(hm:cap<=maxLen)
  (Rz:1<=x) (oK:x<=n) (cQ:w0.cell? ⟨gn,off+(x.toNat-1)*13+11,none⟩=some (.int .i64 c)) (hk:oM w0 gn (off+(x.toNat-1)*13+2) Bj)
  {d:Nat} (hd:d<=1000) {Ex j s:Aj}
  (vu:∀W,Below w0.heap.size w0 W->Calls Proofs.Tryz.prog 294 #[.pointer (some ⟨gn,off+(x.toNat-1)*13,none⟩)] W λe W'=>e= .returned (.string ⟨⟨s⟩⟩)/\Below W.heap.size W W')
  (hlen:(Ex++List.replicate (2*d) 32++s++[10]).length<=AN)
  (vw:(c=0/\j=Ex++List.replicate (2*d) 32++s++[10])\/(c≠0/\Ĥ g w0 c (d+1) (Ex++List.replicate (2*d) 32++s++[10]) j))
  (f:Nat->Aj) (gm:f 0=j) (hf:∀i,i<Bj.length->∃y,Bj[i]?=some [.int .i64 y]/\Ĥ g w0 y (d+1) (f i) (f (i+1))):
  Ĥ g w0 x d Ex (f Bj.length):=by
 intro B b W hB a hb H;obtain⟨p,Q,iV,iO,gu,q⟩:=aDF hk;have h:=hK;simp only[As,Hc,Bg,BH] at hlen;have P:2*d<=140737488355328:=by rw[h] at hlen;omega
 have O:(Lib.byteCells Ex).length+(⟨(List.replicate (2*d) (32:UInt8)).toArray⟩:ByteArray).size<=140737488355328:=by rw[h] at hlen;rw[byteCells_length];simp only[ByteArray.size,Ci,Hc];omega
 have N:(Lib.byteCells (Ex++List.replicate (2*d) 32)).length+(⟨⟨s⟩⟩:ByteArray).size<=140737488355328:=by rw[h] at hlen;rw[byteCells_length];simp only[ByteArray.size,As,Hc];show _+s.length<=_;omega
 have M:(Lib.byteCells (Ex++List.replicate (2*d) 32++s)).length+1<=140737488355328:=by rw[h] at hlen;rw[byteCells_length];simp only[As,Hc];omega
 have L:d<=9223372036854775807:=BC hd AR;clear hlen h;have Hline:=Ñ vu;have o:=Ñ vw;have T:=Ñ hf;have z:=Ñ q;have C:=Ñ iO;have A:=Ñ gu;clear vu vw hf q hk iO gu;refine(callsIn_wide (n:=5)).1 ?_;refine callsIn_of_wp Proofs.Tryz.func149 rfl trivial ?_ rfl;simp only[Proofs.Tryz.ntmps149,Ci,Bg,BH,Nat.reduceAdd,Nat.reduceSub,Mb,Mc,OG,MP,B4,CS];gi_wp2
 refine⟨trivial,(callsIn_wide.2 (aM7 g gn off n cap x _ (Oe hb hc) Rz oK R7 hm)).mono ?_⟩;rintro e w' ⟨rfl,rfl⟩;gi_wp2
 refine⟨trivial,(callsIn_wide.2 (Proofs.Tryz.strings_Repeat ⟨#[32,32]⟩ d _ L P)).mono ?_⟩;rintro e W1 ⟨rfl,b1⟩;have W8:Below w0.heap.size w0 W1:=hb.trans (b1.mono hb.size);have w:Below B W W1:=b1.mono a;have l1:=Rj H b1;have hr:(Lib.repeatL (⟨#[32,32]⟩:ByteArray).data.toList d)=List.replicate (2*d) 32:=kq d;rw[hr];gi_wp2
 refine⟨trivial,(callsIn_wide.2 (Proofs.Tryz.Builder_WriteString B b (Lib.byteCells Ex) _ _ l1 O (BC a w.size))).mono ?_⟩;rintro e W2 ⟨rfl,F,b2⟩;rw[yQ,<-MD] at F;have u:=w.trans b2;have Rk:Below w0.heap.size w0 W2:=W8.trans (b2.mono hB);gi_wp2
 refine⟨trivial,(callsIn_wide.2 (Hline.out _ Rk)).mono ?_⟩;rintro e W3 ⟨rfl,b3⟩;have ĥ:Below w0.heap.size w0 W3:=Rk.trans (b3.mono Rk.size);have t:Below B W W3:=u.trans (b3.mono (BC a u.size));have l3:=Rj (.inr F) b3;gi_wp2
 refine⟨trivial,(callsIn_wide.2 (Proofs.Tryz.Builder_WriteString B b _ _ _ l3 N (BC a t.size))).mono ?_⟩;rintro e Z ⟨rfl,l4,b4⟩;rw[oN,<-MD] at l4;have r:=t.trans b4;have J:Below w0.heap.size w0 Z:=ĥ.trans (b4.mono hB);gi_wp2
 refine⟨trivial,(callsIn_wide.2 (Proofs.Tryz.Builder_WriteByte B b _ 10 _ (.inr l4) M (BC a r.size))).mono ?_⟩;rintro e S ⟨rfl,D,b5⟩;have K:Lib.byteCells (Ex++List.replicate (2*d) 32++s)++[Value.int .u8 10]=Lib.byteCells (Ex++List.replicate (2*d) 32++s++[10]):=by rw[MD (Ex++List.replicate (2*d) 32++s) [10]];rfl
 replace D:=K▸D;have m:=r.trans b5;have k:Below w0.heap.size w0 S:=J.trans (b5.mono hB);have c5:=Oe k cQ;clear R7 hm Rz oK hc P O N M L l1 l3 l4 F;rcases o.out with⟨rfl,rfl⟩|⟨G,Ż⟩
 .have l:=m;have l6:Lib.IsBuilder 164 5 B b (Lib.byteCells (f 0)) S:=by rw[gm];exact .inr D
  have Y:=Oe k iV;gi_wp2
  exact ź hB a hb hd C.out A.out z.out f T.out l l6 _ _ _ _ _ _ _ _ _ _ _ _ _ _ _ _ _ _ _ _ _ _ _ _ _ _ _ _ _ _ _ _ _ _ _ _ _ _ _ _ _ _ _ _ _ _ _ _ _ _ _ _ _
 .have hne:(c != 0)=true:=by simp[G]
  have U:=lC d hd;have aNb:=Ż B b _ hB (BC a m.size) k (.inr D);rw[show((d+1:Nat):Int)=(d:Int)+1 from rfl] at aNb;gi_wp2
  refine⟨trivial,(callsIn_wide.2 aNb).mono ?_⟩;rintro e R ⟨⟨v,rfl⟩,E,b6⟩;have l:=m.trans b6;have I:Below w0.heap.size w0 R:=k.trans (b6.mono hB);have l6:Lib.IsBuilder 164 5 B b (Lib.byteCells (f 0)) R:=by rw[gm];exact E
  have Y:=Oe I iV;gi_wp2
  exact ź hB a hb hd C.out A.out z.out f T.out l l6 _ _ _ _ _ _ _ _ _ _ _ _ _ _ _ _ _ _ _ _ _ _ _ _ _ _ _ _ _ _ _ _ _ _ _ _ _ _ _ _ _ _ _ _ _ _ _ _ _ _ _ _ _
section
variable{U:Gh}{h:Ak}{w0:World}
abbrev aI9(fuel d:Nat)(a:Ad):List Ad->(Aj->IT)->Aj->IT:=λOL K Ex=>match OL with
 |[.int .i64 y]=>Jg 294 a fuel y (d+1) Ex K
 |_=> .fail
def yR{run:IT->Ak->Option LI}{g fuel d:Nat}{a:Ad}(ih:∀(x:Int) (Ex:Aj) (k:Aj->IT) (res:LI),IT.step (Cf cx) run (Jg 294 a fuel x (d+1) Ex k) h=some res->∃UA,IT.step (Cf cx) run (k UA) h=some res/\Ĥ g w0 x (d+1) Ex UA):
  ∀(Bj:List (List Ad)) (Ex:Aj) (k:Aj->IT) (res:LI),IT.step (Cf cx) run (Bj.foldr (aI9 fuel d a) k Ex) h=some res->
   ∃f:Nat->Aj,f 0=Ex/\IT.step (Cf cx) run (k (f Bj.length)) h=some res/\∀i,i<Bj.length->∃y,Bj[i]?=some [.int .i64 y]/\Ĥ g w0 y (d+1) (f i) (f (i+1))
 |[],Ex,k,res,e=>⟨λ_=>Ex,rfl,e,λi hi=>by simp at hi⟩
 |OL::Bj,Ex,k,res,e=>by
  simp only[List.foldr_cons] at e;unfold aI9 at e;split at e
  .rename_i y;obtain⟨b,j,l⟩:=ih _ _ _ _ e;obtain⟨f,f0,f1,f2⟩:=yR ih Bj b k res j;refine⟨λ|0=>Ex|i+1=>f i,rfl,f1,λi hi=>?_⟩;cases i with
   |zero=>
    have hc:Ĥ g w0 y (d+1) Ex (f 0):=by rw[f0];exact l
    exact⟨y,rfl,hc⟩
   |succ i=>obtain⟨c,p,q⟩:=f2 i (by simpa using hi);exact⟨c,by simpa using p,q⟩
  .cases e
def ż{run:IT->Ak->Option LI}{a:Ad}{x:Int}{d:Nat}{Ex:Aj}{k:Aj->IT}{res:LI}(fuel:Nat)(e:IT.step (Cf cx) run (Jg 294 a fuel x d Ex k) h=some res):∃id,a= .ptr (some (id,0)):=by
 cases fuel with
 |zero=>simp[Jg,IT.step] at e
 |succ fuel=>
  simp only[Jg,IT.step,EH] at e;cases e0:Ì h [a,.int .i64 x] with
  |none=>simp[e0] at e
  |some b=>
   unfold Ì at e0;split at e0;.rename_i id x' OR;cases OR;exact⟨id,rfl⟩
   .cases e0
def yS{n:Nat}(hs:F9 cx (IT.run (Cf cx) n))(hi:IA U h w0)(hg:∀g cs,cx.IF g=some cs->Dr U cs g 0){id g:Nat}(hm:U.mu id=some g):
  ∀(fuel:Nat) (x:Int) (d:Nat) (Ex:Aj) (k:Aj->IT) (res:LI),d+fuel<=1000->IT.step (Cf cx) (IT.run (Cf cx) n) (Jg 294 (.ptr (some (id,0))) fuel x d Ex k) h=some res->
   ∃UA,IT.step (Cf cx) (IT.run (Cf cx) n) (k UA) h=some res/\Ĥ g w0 x d Ex UA/\∃p cap ln,w0.cell? ⟨g,0,none⟩=some (.slice p ln cap)/\1<=x/\x<=ln
 |0,x,d,Ex,k,res,_,e=>by simp[Jg,IT.step] at e
 |fuel+1,x,d,Ex,k,res,hd,e=>by
  simp only[Jg,IT.step,EH] at e;cases e0:Ì h [.ptr (some (id,0)),.int .i64 x] with
  |none=>simp[e0] at e
  |some u=>
  obtain⟨h1,r⟩:=u;simp only[e0] at e;obtain⟨m,gn,off,w,cap,row,c,Bj,rfl,i,j,hc,R7,cR,Rz,oK,hrow,cQ,hk⟩:=Ÿ hi hm e0;simp only[IT.step] at e;rw[m] at e;clear m;cases l:IT.run (Cf cx) n (Cf cx 294 [.CO row]) [] with
  |none=>simp[l] at e
  |some y=>
  simp only[l] at e;split at e
  .rename_i v o OR;cases OR;split at e
   .split at e
    .rename_i s Iq;split at e
     .rename_i hlen;have ih:∀(x:Int) (Ex:Aj) (k:Aj->IT) (res:LI),IT.step (Cf cx) (IT.run (Cf cx) n) (Jg 294 (.ptr (some (id,0))) fuel x (d+1) Ex k) h=some res->∃UA,IT.step (Cf cx) (IT.run (Cf cx) n) (k UA) h=some res/\Ĥ g w0 x (d+1) Ex UA:=λx Ex k res e=>by obtain⟨UA,p,q,_⟩:=yS hs hi hg hm fuel x (d+1) Ex k res Ab e;exact⟨UA,p,q⟩
      have vu:∀W,Below w0.heap.size w0 W->Calls Proofs.Tryz.prog 294 #[.pointer (some ⟨gn,off+(x.toNat-1)*13,none⟩)] W λe W'=>e= .returned (.string ⟨⟨s⟩⟩)/\Below W.heap.size W W':=
       λW hb=>aDE hs hi hg l hb hrow
      have HT:∀a,((c=0/\a=Ex++List.replicate (2*d) 32++s++[10])\/(c≠0/\Ĥ g w0 c (d+1) (Ex++List.replicate (2*d) 32++s++[10]) a))->
        IT.step (Cf cx) (IT.run (Cf cx) n) (Bj.foldr (aI9 fuel d (.ptr (some (id,0)))) k a) h=some res->∃UA,IT.step (Cf cx) (IT.run (Cf cx) n) (k UA) h=some res/\Ĥ g w0 x d Ex UA/\∃p cap ln,w0.cell? ⟨g,0,none⟩=some (.slice p ln cap)/\1<=x/\x<=ln:=by
       intro a vw t;obtain⟨f,f0,f1,f2⟩:=yR ih Bj a k res t;exact⟨f Bj.length,f1,aI7 i j hc R7 cR Rz oK cQ hk Ab vu hlen vw f f0 f2,_,_,_,hc,Rz,oK⟩
      split at e;.rename_i b;exact HT _ (.inl ⟨b,rfl⟩) e
      .rename_i b;obtain⟨a,p,q⟩:=ih _ _ _ _ e;exact HT a (.inr ⟨b,q⟩) p
     .cases e
    .cases e
   .cases e
  .cases e
end
def aJa{w0:World}{g ln cap:Nat}{p:Option Addr}{x:Int}{s:Aj}(b:g<w0.heap.size)(hc:w0.cell? ⟨g,0,none⟩=some (.slice p ln cap))(Rz:1<=x)(oK:x<=ln)(Ż:Ĥ g w0 x 0 [] s):
  Calls Proofs.Tryz.prog 48 #[.pointer (some ⟨g,0,none⟩),.int .i64 x] w0 λe w'=>e= .returned (.string ⟨⟨s⟩⟩)/\Below w0.heap.size w0 w':=by
 have c:decide (1<=x/\x<=ln)=true:=Ah ⟨Rz,oK⟩;have aSZ:(w0.alloc (.cells #[.pointer none,.slice none 0 0] 164)).heap[w0.heap.size]?=some (.cells #[.pointer none,.slice none 0 0] 164 (0,0)):=World.alloc_heap_new w0 _;have W8:Below w0.heap.size w0 (w0.alloc (.cells #[.pointer none,.slice none 0 0] 164)):=(Below.refl _ w0).alloc (Af _) _;have l1:Lib.IsBuilder 164 5 w0.heap.size w0.heap.size (Lib.byteCells []) (w0.alloc (.cells #[.pointer none,.slice none 0 0] 164)):=
  .inl ⟨Af _,.slice none 0 0,aSZ,World.ownsRow_nil _ _ _ _,by simp[Value.ownBlock]⟩
 have Zw:=Ż w0.heap.size w0.heap.size _ (Af _) AF W8 l1;rw[show((0:Nat):Int)=0 from rfl] at Zw;refine(callsIn_wide (n:=5)).1 ?_;refine callsIn_of_wp Proofs.Tryz.func48 rfl trivial ?_ rfl;simp only[Proofs.Tryz.ntmps48,Ci,Bg,BH,Nat.reduceAdd,Nat.reduceSub,Mb,Mc,OG,MP,B4,CS];gi_wp2
 refine⟨trivial,(callsIn_wide.2 (lB g _ ln cap x _ hc)).mono ?_⟩;rintro e w' ⟨rfl,rfl⟩;rw[c];gi_wp2
 refine⟨trivial,(callsIn_wide.2 Zw).mono ?_⟩;rintro e d ⟨⟨v,rfl⟩,a,b2⟩;gi_wp2
 refine⟨trivial,(callsIn_wide.2 (Proofs.Tryz.Builder_String_any w0.heap.size w0.heap.size s _ a (by have:=b2.size;have:=W8.size;omega))).mono ?_⟩;rintro e W3 ⟨rfl,b3⟩;gi_wp2
 refine bodyPost_ret (results_tmp rfl _ _ _) rfl ?_;exact⟨rfl,(W8.trans b2).trans b3⟩
def aJb{h:Ak}(n:Nat)(hs:F9 cx (IT.run (Cf cx) n))(args:List Ad)(r:Ad)(h':Ak)(Bd:IT.step (Cf cx) (IT.run (Cf cx) n) (vp 294 args) h=some (.ret,[r],h')):
  (∃fn c,cx.P.funcs[Fq 48]?=some fn/\(fn.name== "runtime.NumGoroutine")=false/\fn.body=some c)/\
  ∀(U:Gh) (w:World) (cargs:Array Value),IA U h w->(∀g cs,cx.IF g=some cs->Dr U cs g 0)->Bt U args cargs.toList->
   Calls cx.P (Fq 48) cargs w λe w'=>match e with
    | .returned v=>∃d,IA d h' w'/\M7 U w d w'/\B3 d r v/\(cx.KG 48=true->∃s c,Kk d w.heap.size w' s c v r)
    |_=>False:=by
 refine⟨⟨_,_,Proofs.Tryz.func48,rfl,rfl⟩,λU w cargs hi hg ha=>?_⟩;have aS0:∃id x,args=[.ptr (some (id,0)),.int .i64 x]:=by
  unfold vp at Bd;split at Bd;.rename_i a x;obtain⟨id,rfl⟩:=ż _ Bd;exact⟨id,x,rfl⟩
  .cases Bd
 obtain⟨id,x,rfl⟩:=aS0;obtain⟨v0,us,f,⟨g,hm,rfl⟩,k,i,rfl,rfl,hnil⟩:=ha;cases hnil;have b:cargs=#[.pointer (some ⟨g,0,none⟩),.int .i64 x]:=by apply IV;simpa using f
 subst b;simp only[vp] at Bd;obtain⟨Ex,j,Ż,p,cap,ln,hc,Rz,oK⟩:=yS hs hi hg hm 100 x 0 [] _ _ Ab Bd;cases j;refine(aJa (Ek hc) hc Rz oK Ż).mono λe w' he=>?_;obtain⟨rfl,hb⟩:=he;obtain⟨Zy,Ry⟩:=hi.Nc hb;exact⟨U,Zy,Ry,rfl,λe=>by cases e⟩
end Go.Am
end
section
namespace Go.Am
open Go
def aDG:oA cx:=by
 refine⟨λf hf=>?_,λf p hp n hs args h r h' Bd=>?_⟩
 .simp only[cx,aMT] at hf;split at hf;.exact Ð
  .cases hf
 .simp only[cx,aG7] at hp;split at hp;.cases hp;exact aJb n hs args r h' Bd
  .cases hp;exact aIX n args r h' Bd
  .cases hp;exact aDC n args r h' Bd
  .cases hp;exact aDA n hs args r h' Bd
  .cases hp
end Go.Am
end
