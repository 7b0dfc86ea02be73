/- Lemmas -/
import Derived.Shelf.Strings.Repeat
import Derived.Shelf.Spec.SlicesInsertGrow
import Derived.Test.YtlcmmpgfafpoiaaGreatDoorProg
set_option linter.all false
namespace Go.Proofs
open Go.Shelf
def Tryz.UN:Go.Shelf.Ren:=⟨λ|169=>56|n=>n,λ|70=>96|9=>9|0=>0|72=>99|37=>97|127=>184|3=>3|5=>5|n=>n,λ|n=>n⟩
def Tryz.Û:Go.Proofs.Lays.n169 Tryz.prog Tryz.UN:={
 mixed:=by kernel_rfl
 f169:=Tryz.func56.trans (congrArg some (by kernel_rfl))
 t0:=Tryz.underlying0
 a0:=Tryz.isAgg0
 z0:=Tryz.sizeOf0
 v0:=Tryz.zeroValue0
 t3:=Tryz.underlying3
 a3:=Tryz.isAgg3
 z3:=Tryz.sizeOf3
 v3:=Tryz.zeroValue3
 t9:=Tryz.underlying9
 a9:=Tryz.isAgg9
 z9:=Tryz.sizeOf9
 v9:=Tryz.zeroValue9
 t37:=Tryz.underlying97
 a37:=Tryz.isAgg97
 z37:=Tryz.sizeOf97
 v37:=Tryz.zeroValue97
 t70:=Tryz.underlying96
 a70:=Tryz.isAgg96
 z70:=Tryz.sizeOf96
 v70:=Tryz.zeroValue96
 t72:=Tryz.underlying99
 a72:=Tryz.isAgg99
 z72:=Tryz.sizeOf99
 v72:=Tryz.zeroValue99
 t127:=Tryz.underlying184
 a127:=Tryz.isAgg184
 z127:=Tryz.sizeOf184
 v127:=Tryz.zeroValue184}
def Tryz.Sx:Builder.Extra Tryz.prog Tryz.UN:={
 sizeBuilder:=by kernel_rfl
 liesBuilder:=by kernel_rfl
 t5:=Tryz.underlying5
 a5:=Tryz.isAgg5
 z5:=Tryz.sizeOf5
 v5:=Tryz.zeroValue5
 infoByte:=by kernel_rfl
 cellsByte:=by kernel_rfl
 sizeByte:=by kernel_rfl
 neB5:=by decide}
open Go.RowKit in
def Tryz.Builder_String_any(B b:Nat)(l:List UInt8)(w:World)(h:Lib.IsBuilder 99 5 B b (Lib.byteCells l) w)(hBw:B<=w.heap.size):
 Calls Tryz.prog 56 #[.pointer (some ⟨b,0,none⟩)] w λe w'=>e= .returned (.string ⟨l.toArray⟩)/\Below B w w':=Any.Builder_String_any Tryz.Û Tryz.Sx B b l w h hBw
def Tryz.PJ:Go.Shelf.Ren:=⟨λ|105=>155|167=>157|212=>299|99=>300|165=>301|166=>154|170=>302|169=>56|263=>389|264=>390|206=>391|240=>298|241=>392|276=>388|277=>421|n=>n,λ|9=>9|3=>3|4=>4|20=>20|0=>0|46=>264|109=>265|5=>5|72=>99|76=>176|51=>273|146=>319|53=>321|148=>322|70=>96|37=>97|75=>175|127=>184|164=>317|80=>101|n=>n,λ|n=>n⟩
def Tryz.dS:Go.Proofs.Lays.n105 Tryz.prog Tryz.PJ:={
 mixed:=by kernel_rfl
 f99:=Tryz.func300.trans (congrArg some (by kernel_rfl))
 f105:=Tryz.func155.trans (congrArg some (by kernel_rfl))
 f165:=Tryz.func301.trans (congrArg some (by kernel_rfl))
 f166:=Tryz.func154.trans (congrArg some (by kernel_rfl))
 f169:=Tryz.func56.trans (congrArg some (by kernel_rfl))
 f170:=Tryz.func302.trans (congrArg some (by kernel_rfl))
 f206:=Tryz.func391.trans (congrArg some (by kernel_rfl))
 f212:=Tryz.func299.trans (congrArg some (by kernel_rfl))
 f240:=Tryz.func298.trans (congrArg some (by kernel_rfl))
 f241:=Tryz.func392.trans (congrArg some (by kernel_rfl))
 f263:=Tryz.func389.trans (congrArg some (by kernel_rfl))
 f264:=Tryz.func390.trans (congrArg some (by kernel_rfl))
 f276:=Tryz.func388.trans (congrArg some (by kernel_rfl))
 f277:=Tryz.func421.trans (congrArg some (by kernel_rfl))
 t0:=Tryz.underlying0
 a0:=Tryz.isAgg0
 z0:=Tryz.sizeOf0
 v0:=Tryz.zeroValue0
 t3:=Tryz.underlying3
 a3:=Tryz.isAgg3
 z3:=Tryz.sizeOf3
 v3:=Tryz.zeroValue3
 t4:=Tryz.underlying4
 a4:=Tryz.isAgg4
 z4:=Tryz.sizeOf4
 v4:=Tryz.zeroValue4
 t5:=Tryz.underlying5
 a5:=Tryz.isAgg5
 z5:=Tryz.sizeOf5
 v5:=Tryz.zeroValue5
 t9:=Tryz.underlying9
 a9:=Tryz.isAgg9
 z9:=Tryz.sizeOf9
 v9:=Tryz.zeroValue9
 t20:=Tryz.underlying20
 a20:=Tryz.isAgg20
 z20:=Tryz.sizeOf20
 v20:=Tryz.zeroValue20
 t37:=Tryz.underlying97
 a37:=Tryz.isAgg97
 z37:=Tryz.sizeOf97
 v37:=Tryz.zeroValue97
 t46:=Tryz.underlying264
 a46:=Tryz.isAgg264
 z46:=Tryz.sizeOf264
 v46:=Tryz.zeroValue264
 t51:=Tryz.underlying273
 a51:=Tryz.isAgg273
 z51:=Tryz.sizeOf273
 v51:=Tryz.zeroValue273
 t53:=Tryz.underlying321
 a53:=Tryz.isAgg321
 z53:=Tryz.sizeOf321
 v53:=Tryz.zeroValue321
 t70:=Tryz.underlying96
 a70:=Tryz.isAgg96
 z70:=Tryz.sizeOf96
 v70:=Tryz.zeroValue96
 t72:=Tryz.underlying99
 a72:=Tryz.isAgg99
 z72:=Tryz.sizeOf99
 v72:=Tryz.zeroValue99
 t75:=Tryz.underlying175
 a75:=Tryz.isAgg175
 z75:=Tryz.sizeOf175
 v75:=Tryz.zeroValue175
 t76:=Tryz.underlying176
 a76:=Tryz.isAgg176
 z76:=Tryz.sizeOf176
 v76:=Tryz.zeroValue176
 t109:=Tryz.underlying265
 a109:=Tryz.isAgg265
 z109:=Tryz.sizeOf265
 v109:=Tryz.zeroValue265
 t127:=Tryz.underlying184
 a127:=Tryz.isAgg184
 z127:=Tryz.sizeOf184
 v127:=Tryz.zeroValue184
 t146:=Tryz.underlying319
 a146:=Tryz.isAgg319
 z146:=Tryz.sizeOf319
 v146:=Tryz.zeroValue319
 t148:=Tryz.underlying322
 a148:=Tryz.isAgg322
 z148:=Tryz.sizeOf322
 v148:=Tryz.zeroValue322
 t164:=Tryz.underlying317
 a164:=Tryz.isAgg317
 z164:=Tryz.sizeOf317
 v164:=Tryz.zeroValue317}
def Tryz.Kp:Builder.Extra Tryz.prog Tryz.PJ:={
 sizeBuilder:=by kernel_rfl
 liesBuilder:=by kernel_rfl
 t5:=Tryz.underlying5
 a5:=Tryz.isAgg5
 z5:=Tryz.sizeOf5
 v5:=Tryz.zeroValue5
 infoByte:=by kernel_rfl
 cellsByte:=by kernel_rfl
 sizeByte:=by kernel_rfl
 neB5:=by decide}
open Go.RowKit Go.Lib in
def Tryz.strings_Repeat(s:ByteArray)(c:Nat)(w:World)(hc:c<=9223372036854775807)(hlen:s.size*c<=140737488355328):
 Calls Tryz.prog 155 #[.string s,.int .i64 c] w λe w'=>e= .returned (.string ⟨(Lib.repeatL s.data.toList c).toArray⟩)/\Below w.heap.size w w':=Any.strings_Repeat Tryz.dS Tryz.Kp s c w hc hlen
def Tryz.ZF:Go.Shelf.Ren:=⟨λ|21=>239|27=>364|28=>365|35=>416|39=>432|n=>n,λ|22=>84|3=>3|4=>4|0=>0|n=>n,λ|n=>n⟩
def Tryz.NN:Go.Proofs.Lays2.n21 Tryz.prog Tryz.ZF:={
 mixed:=by kernel_rfl
 f21:=Tryz.func239.trans (congrArg some (by kernel_rfl))
 f27:=Tryz.func364.trans (congrArg some (by kernel_rfl))
 f28:=Tryz.func365.trans (congrArg some (by kernel_rfl))
 f35:=Tryz.func416.trans (congrArg some (by kernel_rfl))
 f39:=Tryz.func432.trans (congrArg some (by kernel_rfl))
 t0:=Tryz.underlying0
 a0:=Tryz.isAgg0
 z0:=Tryz.sizeOf0
 v0:=Tryz.zeroValue0
 t3:=Tryz.underlying3
 a3:=Tryz.isAgg3
 z3:=Tryz.sizeOf3
 v3:=Tryz.zeroValue3
 t4:=Tryz.underlying4
 a4:=Tryz.isAgg4
 z4:=Tryz.sizeOf4
 v4:=Tryz.zeroValue4
 t22:=Tryz.underlying84
 a22:=Tryz.isAgg84
 z22:=Tryz.sizeOf84
 v22:=Tryz.zeroValue84
 i3:=by kernel_rfl}
def Tryz.Ü:Go.Proofs.Lays.n167 Tryz.prog Tryz.PJ:={Tryz.dS with
 f167:=Tryz.func157.trans (congrArg some (by kernel_rfl))}
open Go.RowKit in
def Tryz.Builder_WriteByte(B b:Nat)(bs:List Value)(c:Int)(w:World)(h:Lib.IsBuilder 99 5 B b bs w)(hlen:bs.length+1<=140737488355328)(hBw:B<=w.heap.size):
 Calls Tryz.prog 157 #[.pointer (some ⟨b,0,none⟩),.int .u8 c] w λe w'=>e= .returned .nilIface/\(Lib.BuilderAt 99 5 B b (.pointer (some ⟨b,0,none⟩)) (bs++[.int .u8 c]) w'/\Below B w w'):=Any.Builder_WriteByte Tryz.Ü Tryz.Kp B b bs c w h hlen hBw
open Go.RowKit in
def Tryz.Builder_WriteString(B b:Nat)(bs:List Value)(s:ByteArray)(w:World)(h:Lib.IsBuilder 99 5 B b bs w)(hlen:bs.length+s.size<=140737488355328)(hBw:B<=w.heap.size):
 Calls Tryz.prog 154 #[.pointer (some ⟨b,0,none⟩),.string s] w λe w'=>e= .returned (.tuple #[.int .i64 s.size,.nilIface])/\(Lib.BuilderAt 99 5 B b (.pointer (some ⟨b,0,none⟩)) (bs++Lib.strCells s) w'/\Below B w w'):=Any.Builder_WriteString {Tryz.dS with} Tryz.Kp B b bs s w h hlen hBw
end Go.Proofs
