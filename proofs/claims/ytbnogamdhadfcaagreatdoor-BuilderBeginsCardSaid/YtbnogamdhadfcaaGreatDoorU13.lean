/- Lemmas -/
import Derived.Shelf.Strings.Repeat
import Derived.Shelf.Spec.SlicesInsertGrow
import Derived.Test.YtbnogamdhadfcaaGreatDoorProg
set_option linter.unusedVariables false
set_option linter.unusedSimpArgs false
namespace Go.Proofs
open Go.Shelf
def Tryz.SP:Go.Shelf.Ren:=⟨λ|169=>96|n=>n,λ|70=>149|9=>9|0=>0|72=>151|37=>144|127=>215|3=>3|5=>5|n=>n,λ|n=>n⟩
theorem Tryz.gh:Go.Proofs.Lays.n169 Tryz.prog Tryz.SP:={
 mixed:=by kernel_rfl
 f169:=Tryz.func96.trans (congrArg some (by kernel_rfl))
 t0:=Tryz.underlying0
 a0:=Tryz.isAgg0
 z0:=Tryz.sizeOf0
 v0:=Tryz.zeroValue0
 t3:=Tryz.underlying3
 a3:=Tryz.isAgg3
 z3:=Tryz.sizeOf3
 v3:=Tryz.zeroValue3
 t9:=Tryz.underlying9
 a9:=Tryz.isAgg9
 z9:=Tryz.sizeOf9
 v9:=Tryz.zeroValue9
 t37:=Tryz.underlying144
 a37:=Tryz.isAgg144
 z37:=Tryz.sizeOf144
 v37:=Tryz.zeroValue144
 t70:=Tryz.underlying149
 a70:=Tryz.isAgg149
 z70:=Tryz.sizeOf149
 v70:=Tryz.zeroValue149
 t72:=Tryz.underlying151
 a72:=Tryz.isAgg151
 z72:=Tryz.sizeOf151
 v72:=Tryz.zeroValue151
 t127:=Tryz.underlying215
 a127:=Tryz.isAgg215
 z127:=Tryz.sizeOf215
 v127:=Tryz.zeroValue215}
theorem Tryz.QJ:Builder.Extra Tryz.prog Tryz.SP:={
 sizeBuilder:=by kernel_rfl
 liesBuilder:=by kernel_rfl
 t5:=Tryz.underlying5
 a5:=Tryz.isAgg5
 z5:=Tryz.sizeOf5
 v5:=Tryz.zeroValue5
 infoByte:=by kernel_rfl
 cellsByte:=by kernel_rfl
 sizeByte:=by kernel_rfl
 neB5:=by decide}
open Go.RowKit in
theorem Tryz.Builder_String_any(B b:Nat)(l:List UInt8)(w:World)(h:Lib.IsBuilder 151 5 B b (Lib.byteCells l) w)(hBw:B<=w.heap.size):
 Calls Tryz.prog 96 #[.pointer (some ⟨b,0,none⟩)] w λe w'=>e= .returned (.string ⟨l.toArray⟩)/\Below B w w':=Any.Builder_String_any Tryz.gh Tryz.QJ B b l w h hBw
def Tryz.N0:Go.Shelf.Ren:=⟨λ|105=>181|167=>183|212=>251|99=>252|165=>253|166=>180|170=>254|169=>96|263=>290|264=>291|206=>292|240=>250|241=>293|276=>289|277=>312|n=>n,λ|9=>9|3=>3|4=>4|20=>20|0=>0|46=>251|109=>256|5=>5|72=>151|76=>210|51=>199|146=>280|53=>282|148=>283|70=>149|37=>144|75=>209|127=>215|164=>278|80=>153|n=>n,λ|n=>n⟩
theorem Tryz.Yp:Go.Proofs.Lays.n105 Tryz.prog Tryz.N0:={
 mixed:=by kernel_rfl
 f99:=Tryz.func252.trans (congrArg some (by kernel_rfl))
 f105:=Tryz.func181.trans (congrArg some (by kernel_rfl))
 f165:=Tryz.func253.trans (congrArg some (by kernel_rfl))
 f166:=Tryz.func180.trans (congrArg some (by kernel_rfl))
 f169:=Tryz.func96.trans (congrArg some (by kernel_rfl))
 f170:=Tryz.func254.trans (congrArg some (by kernel_rfl))
 f206:=Tryz.func292.trans (congrArg some (by kernel_rfl))
 f212:=Tryz.func251.trans (congrArg some (by kernel_rfl))
 f240:=Tryz.func250.trans (congrArg some (by kernel_rfl))
 f241:=Tryz.func293.trans (congrArg some (by kernel_rfl))
 f263:=Tryz.func290.trans (congrArg some (by kernel_rfl))
 f264:=Tryz.func291.trans (congrArg some (by kernel_rfl))
 f276:=Tryz.func289.trans (congrArg some (by kernel_rfl))
 f277:=Tryz.func312.trans (congrArg some (by kernel_rfl))
 t0:=Tryz.underlying0
 a0:=Tryz.isAgg0
 z0:=Tryz.sizeOf0
 v0:=Tryz.zeroValue0
 t3:=Tryz.underlying3
 a3:=Tryz.isAgg3
 z3:=Tryz.sizeOf3
 v3:=Tryz.zeroValue3
 t4:=Tryz.underlying4
 a4:=Tryz.isAgg4
 z4:=Tryz.sizeOf4
 v4:=Tryz.zeroValue4
 t5:=Tryz.underlying5
 a5:=Tryz.isAgg5
 z5:=Tryz.sizeOf5
 v5:=Tryz.zeroValue5
 t9:=Tryz.underlying9
 a9:=Tryz.isAgg9
 z9:=Tryz.sizeOf9
 v9:=Tryz.zeroValue9
 t20:=Tryz.underlying20
 a20:=Tryz.isAgg20
 z20:=Tryz.sizeOf20
 v20:=Tryz.zeroValue20
 t37:=Tryz.underlying144
 a37:=Tryz.isAgg144
 z37:=Tryz.sizeOf144
 v37:=Tryz.zeroValue144
 t46:=Tryz.underlying251
 a46:=Tryz.isAgg251
 z46:=Tryz.sizeOf251
 v46:=Tryz.zeroValue251
 t51:=Tryz.underlying199
 a51:=Tryz.isAgg199
 z51:=Tryz.sizeOf199
 v51:=Tryz.zeroValue199
 t53:=Tryz.underlying282
 a53:=Tryz.isAgg282
 z53:=Tryz.sizeOf282
 v53:=Tryz.zeroValue282
 t70:=Tryz.underlying149
 a70:=Tryz.isAgg149
 z70:=Tryz.sizeOf149
 v70:=Tryz.zeroValue149
 t72:=Tryz.underlying151
 a72:=Tryz.isAgg151
 z72:=Tryz.sizeOf151
 v72:=Tryz.zeroValue151
 t75:=Tryz.underlying209
 a75:=Tryz.isAgg209
 z75:=Tryz.sizeOf209
 v75:=Tryz.zeroValue209
 t76:=Tryz.underlying210
 a76:=Tryz.isAgg210
 z76:=Tryz.sizeOf210
 v76:=Tryz.zeroValue210
 t109:=Tryz.underlying256
 a109:=Tryz.isAgg256
 z109:=Tryz.sizeOf256
 v109:=Tryz.zeroValue256
 t127:=Tryz.underlying215
 a127:=Tryz.isAgg215
 z127:=Tryz.sizeOf215
 v127:=Tryz.zeroValue215
 t146:=Tryz.underlying280
 a146:=Tryz.isAgg280
 z146:=Tryz.sizeOf280
 v146:=Tryz.zeroValue280
 t148:=Tryz.underlying283
 a148:=Tryz.isAgg283
 z148:=Tryz.sizeOf283
 v148:=Tryz.zeroValue283
 t164:=Tryz.underlying278
 a164:=Tryz.isAgg278
 z164:=Tryz.sizeOf278
 v164:=Tryz.zeroValue278}
theorem Tryz.I9:Builder.Extra Tryz.prog Tryz.N0:={
 sizeBuilder:=by kernel_rfl
 liesBuilder:=by kernel_rfl
 t5:=Tryz.underlying5
 a5:=Tryz.isAgg5
 z5:=Tryz.sizeOf5
 v5:=Tryz.zeroValue5
 infoByte:=by kernel_rfl
 cellsByte:=by kernel_rfl
 sizeByte:=by kernel_rfl
 neB5:=by decide}
open Go.RowKit Go.Lib in
theorem Tryz.strings_Repeat(s:ByteArray)(c:Nat)(w:World)(hc:c<=9223372036854775807)(hlen:s.size*c<=140737488355328):
 Calls Tryz.prog 181 #[.string s,.int .i64 c] w λe w'=>e= .returned (.string ⟨(Lib.repeatL s.data.toList c).toArray⟩)/\Below w.heap.size w w':=Any.strings_Repeat Tryz.Yp Tryz.I9 s c w hc hlen
def Tryz.WC:Go.Shelf.Ren:=⟨λ|21=>199|27=>266|28=>267|35=>303|39=>317|n=>n,λ|22=>62|3=>3|4=>4|0=>0|n=>n,λ|n=>n⟩
theorem Tryz.Mh:Go.Proofs.Lays2.n21 Tryz.prog Tryz.WC:={
 mixed:=by kernel_rfl
 f21:=Tryz.func199.trans (congrArg some (by kernel_rfl))
 f27:=Tryz.func266.trans (congrArg some (by kernel_rfl))
 f28:=Tryz.func267.trans (congrArg some (by kernel_rfl))
 f35:=Tryz.func303.trans (congrArg some (by kernel_rfl))
 f39:=Tryz.func317.trans (congrArg some (by kernel_rfl))
 t0:=Tryz.underlying0
 a0:=Tryz.isAgg0
 z0:=Tryz.sizeOf0
 v0:=Tryz.zeroValue0
 t3:=Tryz.underlying3
 a3:=Tryz.isAgg3
 z3:=Tryz.sizeOf3
 v3:=Tryz.zeroValue3
 t4:=Tryz.underlying4
 a4:=Tryz.isAgg4
 z4:=Tryz.sizeOf4
 v4:=Tryz.zeroValue4
 t22:=Tryz.underlying62
 a22:=Tryz.isAgg62
 z22:=Tryz.sizeOf62
 v22:=Tryz.zeroValue62
 i3:=by kernel_rfl}
theorem Tryz.gi:Go.Proofs.Lays.n167 Tryz.prog Tryz.N0:={Tryz.Yp with
 f167:=Tryz.func183.trans (congrArg some (by kernel_rfl))}
open Go.RowKit in
theorem Tryz.Builder_WriteByte(B b:Nat)(bs:List Value)(c:Int)(w:World)(h:Lib.IsBuilder 151 5 B b bs w)(hlen:bs.length+1<=140737488355328)(hBw:B<=w.heap.size):
 Calls Tryz.prog 183 #[.pointer (some ⟨b,0,none⟩),.int .u8 c] w λe w'=>e= .returned .nilIface/\(Lib.BuilderAt 151 5 B b (.pointer (some ⟨b,0,none⟩)) (bs++[.int .u8 c]) w'/\Below B w w'):=Any.Builder_WriteByte Tryz.gi Tryz.I9 B b bs c w h hlen hBw
open Go.RowKit in
theorem Tryz.Builder_WriteString(B b:Nat)(bs:List Value)(s:ByteArray)(w:World)(h:Lib.IsBuilder 151 5 B b bs w)(hlen:bs.length+s.size<=140737488355328)(hBw:B<=w.heap.size):
 Calls Tryz.prog 180 #[.pointer (some ⟨b,0,none⟩),.string s] w λe w'=>e= .returned (.tuple #[.int .i64 s.size,.nilIface])/\(Lib.BuilderAt 151 5 B b (.pointer (some ⟨b,0,none⟩)) (bs++Lib.strCells s) w'/\Below B w w'):=Any.Builder_WriteString {Tryz.Yp with} Tryz.I9 B b bs s w h hlen hBw
end Go.Proofs
