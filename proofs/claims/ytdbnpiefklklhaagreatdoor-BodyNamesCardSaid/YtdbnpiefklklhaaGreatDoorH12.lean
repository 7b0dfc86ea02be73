/- Lemmas -/
import Derived.Shelf.Strings.Repeat
import Derived.Shelf.Spec.SlicesInsertGrow
import Derived.Test.YtdbnpiefklklhaaGreatDoorProg
set_option linter.all false
namespace Go.Proofs
open Go.Shelf
def Tryz.Un:Go.Shelf.Ren:=⟨λ|169=>142|n=>n,λ|70=>158|9=>9|0=>0|72=>161|37=>159|127=>221|3=>3|5=>5|n=>n,λ|n=>n⟩
def Tryz.zb:Go.Proofs.Lays.n169 Tryz.prog Tryz.Un:={
 mixed:=by kernel_rfl
 f169:=Tryz.func142.trans (congrArg some (by kernel_rfl))
 t0:=Tryz.underlying0
 a0:=Tryz.isAgg0
 z0:=Tryz.sizeOf0
 v0:=Tryz.zeroValue0
 t3:=Tryz.underlying3
 a3:=Tryz.isAgg3
 z3:=Tryz.sizeOf3
 v3:=Tryz.zeroValue3
 t9:=Tryz.underlying9
 a9:=Tryz.isAgg9
 z9:=Tryz.sizeOf9
 v9:=Tryz.zeroValue9
 t37:=Tryz.underlying159
 a37:=Tryz.isAgg159
 z37:=Tryz.sizeOf159
 v37:=Tryz.zeroValue159
 t70:=Tryz.underlying158
 a70:=Tryz.isAgg158
 z70:=Tryz.sizeOf158
 v70:=Tryz.zeroValue158
 t72:=Tryz.underlying161
 a72:=Tryz.isAgg161
 z72:=Tryz.sizeOf161
 v72:=Tryz.zeroValue161
 t127:=Tryz.underlying221
 a127:=Tryz.isAgg221
 z127:=Tryz.sizeOf221
 v127:=Tryz.zeroValue221}
def Tryz.R7:Builder.Extra Tryz.prog Tryz.Un:={
 sizeBuilder:=by kernel_rfl
 liesBuilder:=by kernel_rfl
 t5:=Tryz.underlying5
 a5:=Tryz.isAgg5
 z5:=Tryz.sizeOf5
 v5:=Tryz.zeroValue5
 infoByte:=by kernel_rfl
 cellsByte:=by kernel_rfl
 sizeByte:=by kernel_rfl
 neB5:=by decide}
open Go.RowKit in
def Tryz.Builder_String_any(B b:Nat)(l:List UInt8)(w:World)(h:Lib.IsBuilder 161 5 B b (Lib.byteCells l) w)(hBw:B<=w.heap.size):
 Calls Tryz.prog 142 #[.pointer (some ⟨b,0,none⟩)] w λe w'=>e= .returned (.string ⟨l.toArray⟩)/\Below B w w':=Any.Builder_String_any Tryz.zb Tryz.R7 B b l w h hBw
def Tryz.O8:Go.Shelf.Ren:=⟨λ|105=>212|167=>214|212=>257|99=>258|165=>259|166=>211|170=>260|169=>142|263=>280|264=>281|206=>282|240=>256|241=>283|276=>279|277=>294|n=>n,λ|9=>9|3=>3|4=>4|20=>20|0=>0|46=>260|109=>261|5=>5|72=>161|76=>216|51=>228|146=>274|53=>276|148=>277|70=>158|37=>159|75=>215|127=>221|164=>272|80=>163|n=>n,λ|n=>n⟩
def Tryz.aY:Go.Proofs.Lays.n105 Tryz.prog Tryz.O8:={
 mixed:=by kernel_rfl
 f99:=Tryz.func258.trans (congrArg some (by kernel_rfl))
 f105:=Tryz.func212.trans (congrArg some (by kernel_rfl))
 f165:=Tryz.func259.trans (congrArg some (by kernel_rfl))
 f166:=Tryz.func211.trans (congrArg some (by kernel_rfl))
 f169:=Tryz.func142.trans (congrArg some (by kernel_rfl))
 f170:=Tryz.func260.trans (congrArg some (by kernel_rfl))
 f206:=Tryz.func282.trans (congrArg some (by kernel_rfl))
 f212:=Tryz.func257.trans (congrArg some (by kernel_rfl))
 f240:=Tryz.func256.trans (congrArg some (by kernel_rfl))
 f241:=Tryz.func283.trans (congrArg some (by kernel_rfl))
 f263:=Tryz.func280.trans (congrArg some (by kernel_rfl))
 f264:=Tryz.func281.trans (congrArg some (by kernel_rfl))
 f276:=Tryz.func279.trans (congrArg some (by kernel_rfl))
 f277:=Tryz.func294.trans (congrArg some (by kernel_rfl))
 t0:=Tryz.underlying0
 a0:=Tryz.isAgg0
 z0:=Tryz.sizeOf0
 v0:=Tryz.zeroValue0
 t3:=Tryz.underlying3
 a3:=Tryz.isAgg3
 z3:=Tryz.sizeOf3
 v3:=Tryz.zeroValue3
 t4:=Tryz.underlying4
 a4:=Tryz.isAgg4
 z4:=Tryz.sizeOf4
 v4:=Tryz.zeroValue4
 t5:=Tryz.underlying5
 a5:=Tryz.isAgg5
 z5:=Tryz.sizeOf5
 v5:=Tryz.zeroValue5
 t9:=Tryz.underlying9
 a9:=Tryz.isAgg9
 z9:=Tryz.sizeOf9
 v9:=Tryz.zeroValue9
 t20:=Tryz.underlying20
 a20:=Tryz.isAgg20
 z20:=Tryz.sizeOf20
 v20:=Tryz.zeroValue20
 t37:=Tryz.underlying159
 a37:=Tryz.isAgg159
 z37:=Tryz.sizeOf159
 v37:=Tryz.zeroValue159
 t46:=Tryz.underlying260
 a46:=Tryz.isAgg260
 z46:=Tryz.sizeOf260
 v46:=Tryz.zeroValue260
 t51:=Tryz.underlying228
 a51:=Tryz.isAgg228
 z51:=Tryz.sizeOf228
 v51:=Tryz.zeroValue228
 t53:=Tryz.underlying276
 a53:=Tryz.isAgg276
 z53:=Tryz.sizeOf276
 v53:=Tryz.zeroValue276
 t70:=Tryz.underlying158
 a70:=Tryz.isAgg158
 z70:=Tryz.sizeOf158
 v70:=Tryz.zeroValue158
 t72:=Tryz.underlying161
 a72:=Tryz.isAgg161
 z72:=Tryz.sizeOf161
 v72:=Tryz.zeroValue161
 t75:=Tryz.underlying215
 a75:=Tryz.isAgg215
 z75:=Tryz.sizeOf215
 v75:=Tryz.zeroValue215
 t76:=Tryz.underlying216
 a76:=Tryz.isAgg216
 z76:=Tryz.sizeOf216
 v76:=Tryz.zeroValue216
 t109:=Tryz.underlying261
 a109:=Tryz.isAgg261
 z109:=Tryz.sizeOf261
 v109:=Tryz.zeroValue261
 t127:=Tryz.underlying221
 a127:=Tryz.isAgg221
 z127:=Tryz.sizeOf221
 v127:=Tryz.zeroValue221
 t146:=Tryz.underlying274
 a146:=Tryz.isAgg274
 z146:=Tryz.sizeOf274
 v146:=Tryz.zeroValue274
 t148:=Tryz.underlying277
 a148:=Tryz.isAgg277
 z148:=Tryz.sizeOf277
 v148:=Tryz.zeroValue277
 t164:=Tryz.underlying272
 a164:=Tryz.isAgg272
 z164:=Tryz.sizeOf272
 v164:=Tryz.zeroValue272}
def Tryz.JD:Builder.Extra Tryz.prog Tryz.O8:={
 sizeBuilder:=by kernel_rfl
 liesBuilder:=by kernel_rfl
 t5:=Tryz.underlying5
 a5:=Tryz.isAgg5
 z5:=Tryz.sizeOf5
 v5:=Tryz.zeroValue5
 infoByte:=by kernel_rfl
 cellsByte:=by kernel_rfl
 sizeByte:=by kernel_rfl
 neB5:=by decide}
open Go.RowKit Go.Lib in
def Tryz.strings_Repeat(s:ByteArray)(c:Nat)(w:World)(hc:c<=9223372036854775807)(hlen:s.size*c<=140737488355328):
 Calls Tryz.prog 212 #[.string s,.int .i64 c] w λe w'=>e= .returned (.string ⟨(Lib.repeatL s.data.toList c).toArray⟩)/\Below w.heap.size w w':=Any.strings_Repeat Tryz.aY Tryz.JD s c w hc hlen
def Tryz.Yk:Go.Shelf.Ren:=⟨λ|21=>181|27=>245|28=>246|35=>275|39=>292|n=>n,λ|22=>63|3=>3|4=>4|0=>0|n=>n,λ|n=>n⟩
def Tryz.Nd:Go.Proofs.Lays2.n21 Tryz.prog Tryz.Yk:={
 mixed:=by kernel_rfl
 f21:=Tryz.func181.trans (congrArg some (by kernel_rfl))
 f27:=Tryz.func245.trans (congrArg some (by kernel_rfl))
 f28:=Tryz.func246.trans (congrArg some (by kernel_rfl))
 f35:=Tryz.func275.trans (congrArg some (by kernel_rfl))
 f39:=Tryz.func292.trans (congrArg some (by kernel_rfl))
 t0:=Tryz.underlying0
 a0:=Tryz.isAgg0
 z0:=Tryz.sizeOf0
 v0:=Tryz.zeroValue0
 t3:=Tryz.underlying3
 a3:=Tryz.isAgg3
 z3:=Tryz.sizeOf3
 v3:=Tryz.zeroValue3
 t4:=Tryz.underlying4
 a4:=Tryz.isAgg4
 z4:=Tryz.sizeOf4
 v4:=Tryz.zeroValue4
 t22:=Tryz.underlying63
 a22:=Tryz.isAgg63
 z22:=Tryz.sizeOf63
 v22:=Tryz.zeroValue63
 i3:=by kernel_rfl}
def Tryz.zc:Go.Proofs.Lays.n167 Tryz.prog Tryz.O8:={Tryz.aY with
 f167:=Tryz.func214.trans (congrArg some (by kernel_rfl))}
open Go.RowKit in
def Tryz.Builder_WriteByte(B b:Nat)(bs:List Value)(c:Int)(w:World)(h:Lib.IsBuilder 161 5 B b bs w)(hlen:bs.length+1<=140737488355328)(hBw:B<=w.heap.size):
 Calls Tryz.prog 214 #[.pointer (some ⟨b,0,none⟩),.int .u8 c] w λe w'=>e= .returned .nilIface/\(Lib.BuilderAt 161 5 B b (.pointer (some ⟨b,0,none⟩)) (bs++[.int .u8 c]) w'/\Below B w w'):=Any.Builder_WriteByte Tryz.zc Tryz.JD B b bs c w h hlen hBw
open Go.RowKit in
def Tryz.Builder_WriteString(B b:Nat)(bs:List Value)(s:ByteArray)(w:World)(h:Lib.IsBuilder 161 5 B b bs w)(hlen:bs.length+s.size<=140737488355328)(hBw:B<=w.heap.size):
 Calls Tryz.prog 211 #[.pointer (some ⟨b,0,none⟩),.string s] w λe w'=>e= .returned (.tuple #[.int .i64 s.size,.nilIface])/\(Lib.BuilderAt 161 5 B b (.pointer (some ⟨b,0,none⟩)) (bs++Lib.strCells s) w'/\Below B w w'):=Any.Builder_WriteString {Tryz.aY with} Tryz.JD B b bs s w h hlen hBw
end Go.Proofs
