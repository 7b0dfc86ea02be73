/- Lemmas -/
import Derived.Shelf.Strings.Repeat
import Derived.Shelf.Spec.SlicesInsertGrow
import Derived.Test.YtffmdapalbecoaaGreatDoorProg
set_option linter.all false
namespace Go.Proofs
open Go.Shelf
def Tryz.We:Go.Shelf.Ren:=⟨λ|169=>55|n=>n,λ|70=>95|9=>9|0=>0|72=>98|37=>96|127=>183|3=>3|5=>5|n=>n,λ|n=>n⟩
def Tryz.ť:Go.Proofs.Lays.n169 Tryz.prog Tryz.We:={
 mixed:=by kernel_rfl
 f169:=Tryz.func55.trans (congrArg some (by kernel_rfl))
 t0:=Tryz.underlying0
 a0:=Tryz.isAgg0
 z0:=Tryz.sizeOf0
 v0:=Tryz.zeroValue0
 t3:=Tryz.underlying3
 a3:=Tryz.isAgg3
 z3:=Tryz.sizeOf3
 v3:=Tryz.zeroValue3
 t9:=Tryz.underlying9
 a9:=Tryz.isAgg9
 z9:=Tryz.sizeOf9
 v9:=Tryz.zeroValue9
 t37:=Tryz.underlying96
 a37:=Tryz.isAgg96
 z37:=Tryz.sizeOf96
 v37:=Tryz.zeroValue96
 t70:=Tryz.underlying95
 a70:=Tryz.isAgg95
 z70:=Tryz.sizeOf95
 v70:=Tryz.zeroValue95
 t72:=Tryz.underlying98
 a72:=Tryz.isAgg98
 z72:=Tryz.sizeOf98
 v72:=Tryz.zeroValue98
 t127:=Tryz.underlying183
 a127:=Tryz.isAgg183
 z127:=Tryz.sizeOf183
 v127:=Tryz.zeroValue183}
def Tryz.TM:Builder.Extra Tryz.prog Tryz.We:={
 sizeBuilder:=by kernel_rfl
 liesBuilder:=by kernel_rfl
 t5:=Tryz.underlying5
 a5:=Tryz.isAgg5
 z5:=Tryz.sizeOf5
 v5:=Tryz.zeroValue5
 infoByte:=by kernel_rfl
 cellsByte:=by kernel_rfl
 sizeByte:=by kernel_rfl
 neB5:=by decide}
open Go.RowKit in
def Tryz.Builder_String_any(B b:Nat)(l:List UInt8)(w:World)(h:Lib.IsBuilder 98 5 B b (Lib.byteCells l) w)(hBw:B<=w.heap.size):
 Calls Tryz.prog 55 #[.pointer (some ⟨b,0,none⟩)] w λe w'=>e= .returned (.string ⟨l.toArray⟩)/\Below B w w':=Any.Builder_String_any Tryz.ť Tryz.TM B b l w h hBw
def Tryz.Qx:Go.Shelf.Ren:=⟨λ|105=>154|167=>156|212=>298|99=>299|165=>300|166=>153|170=>301|169=>55|263=>388|264=>389|206=>390|240=>297|241=>391|276=>387|277=>420|n=>n,λ|9=>9|3=>3|4=>4|20=>20|0=>0|46=>263|109=>264|5=>5|72=>98|76=>175|51=>272|146=>318|53=>320|148=>321|70=>95|37=>96|75=>174|127=>183|164=>316|80=>100|n=>n,λ|n=>n⟩
def Tryz.iL:Go.Proofs.Lays.n105 Tryz.prog Tryz.Qx:={
 mixed:=by kernel_rfl
 f99:=Tryz.func299.trans (congrArg some (by kernel_rfl))
 f105:=Tryz.func154.trans (congrArg some (by kernel_rfl))
 f165:=Tryz.func300.trans (congrArg some (by kernel_rfl))
 f166:=Tryz.func153.trans (congrArg some (by kernel_rfl))
 f169:=Tryz.func55.trans (congrArg some (by kernel_rfl))
 f170:=Tryz.func301.trans (congrArg some (by kernel_rfl))
 f206:=Tryz.func390.trans (congrArg some (by kernel_rfl))
 f212:=Tryz.func298.trans (congrArg some (by kernel_rfl))
 f240:=Tryz.func297.trans (congrArg some (by kernel_rfl))
 f241:=Tryz.func391.trans (congrArg some (by kernel_rfl))
 f263:=Tryz.func388.trans (congrArg some (by kernel_rfl))
 f264:=Tryz.func389.trans (congrArg some (by kernel_rfl))
 f276:=Tryz.func387.trans (congrArg some (by kernel_rfl))
 f277:=Tryz.func420.trans (congrArg some (by kernel_rfl))
 t0:=Tryz.underlying0
 a0:=Tryz.isAgg0
 z0:=Tryz.sizeOf0
 v0:=Tryz.zeroValue0
 t3:=Tryz.underlying3
 a3:=Tryz.isAgg3
 z3:=Tryz.sizeOf3
 v3:=Tryz.zeroValue3
 t4:=Tryz.underlying4
 a4:=Tryz.isAgg4
 z4:=Tryz.sizeOf4
 v4:=Tryz.zeroValue4
 t5:=Tryz.underlying5
 a5:=Tryz.isAgg5
 z5:=Tryz.sizeOf5
 v5:=Tryz.zeroValue5
 t9:=Tryz.underlying9
 a9:=Tryz.isAgg9
 z9:=Tryz.sizeOf9
 v9:=Tryz.zeroValue9
 t20:=Tryz.underlying20
 a20:=Tryz.isAgg20
 z20:=Tryz.sizeOf20
 v20:=Tryz.zeroValue20
 t37:=Tryz.underlying96
 a37:=Tryz.isAgg96
 z37:=Tryz.sizeOf96
 v37:=Tryz.zeroValue96
 t46:=Tryz.underlying263
 a46:=Tryz.isAgg263
 z46:=Tryz.sizeOf263
 v46:=Tryz.zeroValue263
 t51:=Tryz.underlying272
 a51:=Tryz.isAgg272
 z51:=Tryz.sizeOf272
 v51:=Tryz.zeroValue272
 t53:=Tryz.underlying320
 a53:=Tryz.isAgg320
 z53:=Tryz.sizeOf320
 v53:=Tryz.zeroValue320
 t70:=Tryz.underlying95
 a70:=Tryz.isAgg95
 z70:=Tryz.sizeOf95
 v70:=Tryz.zeroValue95
 t72:=Tryz.underlying98
 a72:=Tryz.isAgg98
 z72:=Tryz.sizeOf98
 v72:=Tryz.zeroValue98
 t75:=Tryz.underlying174
 a75:=Tryz.isAgg174
 z75:=Tryz.sizeOf174
 v75:=Tryz.zeroValue174
 t76:=Tryz.underlying175
 a76:=Tryz.isAgg175
 z76:=Tryz.sizeOf175
 v76:=Tryz.zeroValue175
 t109:=Tryz.underlying264
 a109:=Tryz.isAgg264
 z109:=Tryz.sizeOf264
 v109:=Tryz.zeroValue264
 t127:=Tryz.underlying183
 a127:=Tryz.isAgg183
 z127:=Tryz.sizeOf183
 v127:=Tryz.zeroValue183
 t146:=Tryz.underlying318
 a146:=Tryz.isAgg318
 z146:=Tryz.sizeOf318
 v146:=Tryz.zeroValue318
 t148:=Tryz.underlying321
 a148:=Tryz.isAgg321
 z148:=Tryz.sizeOf321
 v148:=Tryz.zeroValue321
 t164:=Tryz.underlying316
 a164:=Tryz.isAgg316
 z164:=Tryz.sizeOf316
 v164:=Tryz.zeroValue316}
def Tryz.KN:Builder.Extra Tryz.prog Tryz.Qx:={
 sizeBuilder:=by kernel_rfl
 liesBuilder:=by kernel_rfl
 t5:=Tryz.underlying5
 a5:=Tryz.isAgg5
 z5:=Tryz.sizeOf5
 v5:=Tryz.zeroValue5
 infoByte:=by kernel_rfl
 cellsByte:=by kernel_rfl
 sizeByte:=by kernel_rfl
 neB5:=by decide}
open Go.RowKit Go.Lib in
def Tryz.strings_Repeat(s:ByteArray)(c:Nat)(w:World)(hc:c<=9223372036854775807)(hlen:s.size*c<=140737488355328):
 Calls Tryz.prog 154 #[.string s,.int .i64 c] w λe w'=>e= .returned (.string ⟨(Lib.repeatL s.data.toList c).toArray⟩)/\Below w.heap.size w w':=Any.strings_Repeat Tryz.iL Tryz.KN s c w hc hlen
def Tryz.cE:Go.Shelf.Ren:=⟨λ|21=>238|27=>363|28=>364|35=>415|39=>431|n=>n,λ|22=>83|3=>3|4=>4|0=>0|n=>n,λ|n=>n⟩
def Tryz.Ou:Go.Proofs.Lays2.n21 Tryz.prog Tryz.cE:={
 mixed:=by kernel_rfl
 f21:=Tryz.func238.trans (congrArg some (by kernel_rfl))
 f27:=Tryz.func363.trans (congrArg some (by kernel_rfl))
 f28:=Tryz.func364.trans (congrArg some (by kernel_rfl))
 f35:=Tryz.func415.trans (congrArg some (by kernel_rfl))
 f39:=Tryz.func431.trans (congrArg some (by kernel_rfl))
 t0:=Tryz.underlying0
 a0:=Tryz.isAgg0
 z0:=Tryz.sizeOf0
 v0:=Tryz.zeroValue0
 t3:=Tryz.underlying3
 a3:=Tryz.isAgg3
 z3:=Tryz.sizeOf3
 v3:=Tryz.zeroValue3
 t4:=Tryz.underlying4
 a4:=Tryz.isAgg4
 z4:=Tryz.sizeOf4
 v4:=Tryz.zeroValue4
 t22:=Tryz.underlying83
 a22:=Tryz.isAgg83
 z22:=Tryz.sizeOf83
 v22:=Tryz.zeroValue83
 i3:=by kernel_rfl}
def Tryz.Ŧ:Go.Proofs.Lays.n167 Tryz.prog Tryz.Qx:={Tryz.iL with
 f167:=Tryz.func156.trans (congrArg some (by kernel_rfl))}
open Go.RowKit in
def Tryz.Builder_WriteByte(B b:Nat)(bs:List Value)(c:Int)(w:World)(h:Lib.IsBuilder 98 5 B b bs w)(hlen:bs.length+1<=140737488355328)(hBw:B<=w.heap.size):
 Calls Tryz.prog 156 #[.pointer (some ⟨b,0,none⟩),.int .u8 c] w λe w'=>e= .returned .nilIface/\(Lib.BuilderAt 98 5 B b (.pointer (some ⟨b,0,none⟩)) (bs++[.int .u8 c]) w'/\Below B w w'):=Any.Builder_WriteByte Tryz.Ŧ Tryz.KN B b bs c w h hlen hBw
open Go.RowKit in
def Tryz.Builder_WriteString(B b:Nat)(bs:List Value)(s:ByteArray)(w:World)(h:Lib.IsBuilder 98 5 B b bs w)(hlen:bs.length+s.size<=140737488355328)(hBw:B<=w.heap.size):
 Calls Tryz.prog 153 #[.pointer (some ⟨b,0,none⟩),.string s] w λe w'=>e= .returned (.tuple #[.int .i64 s.size,.nilIface])/\(Lib.BuilderAt 98 5 B b (.pointer (some ⟨b,0,none⟩)) (bs++Lib.strCells s) w'/\Below B w w'):=Any.Builder_WriteString {Tryz.iL with} Tryz.KN B b bs s w h hlen hBw
end Go.Proofs
