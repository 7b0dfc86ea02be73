/- Lemmas -/
import Derived.Shelf.Strings.Repeat
import Derived.Shelf.Spec.SlicesInsertGrow
import Derived.Test.YtdejbjapknkdnaaGreatDoorProg
set_option linter.all false
namespace Go.Proofs
open Go.Shelf
def Tryz.Vw:Go.Shelf.Ren:=⟨λ|169=>54|n=>n,λ|70=>92|9=>9|0=>0|72=>95|37=>93|127=>144|3=>3|5=>5|n=>n,λ|n=>n⟩
def Tryz.į:Go.Proofs.Lays.n169 Tryz.prog Tryz.Vw:={
 mixed:=by kernel_rfl
 f169:=Tryz.func54.trans (congrArg some (by kernel_rfl))
 t0:=Tryz.underlying0
 a0:=Tryz.isAgg0
 z0:=Tryz.sizeOf0
 v0:=Tryz.zeroValue0
 t3:=Tryz.underlying3
 a3:=Tryz.isAgg3
 z3:=Tryz.sizeOf3
 v3:=Tryz.zeroValue3
 t9:=Tryz.underlying9
 a9:=Tryz.isAgg9
 z9:=Tryz.sizeOf9
 v9:=Tryz.zeroValue9
 t37:=Tryz.underlying93
 a37:=Tryz.isAgg93
 z37:=Tryz.sizeOf93
 v37:=Tryz.zeroValue93
 t70:=Tryz.underlying92
 a70:=Tryz.isAgg92
 z70:=Tryz.sizeOf92
 v70:=Tryz.zeroValue92
 t72:=Tryz.underlying95
 a72:=Tryz.isAgg95
 z72:=Tryz.sizeOf95
 v72:=Tryz.zeroValue95
 t127:=Tryz.underlying144
 a127:=Tryz.isAgg144
 z127:=Tryz.sizeOf144
 v127:=Tryz.zeroValue144}
def Tryz.Tg:Builder.Extra Tryz.prog Tryz.Vw:={
 sizeBuilder:=by kernel_rfl
 liesBuilder:=by kernel_rfl
 t5:=Tryz.underlying5
 a5:=Tryz.isAgg5
 z5:=Tryz.sizeOf5
 v5:=Tryz.zeroValue5
 infoByte:=by kernel_rfl
 cellsByte:=by kernel_rfl
 sizeByte:=by kernel_rfl
 neB5:=by decide}
open Go.RowKit in
def Tryz.Builder_String_any(B b:Nat)(l:List UInt8)(w:World)(h:Lib.IsBuilder 95 5 B b (Lib.byteCells l) w)(hBw:B<=w.heap.size):
 Calls Tryz.prog 54 #[.pointer (some ⟨b,0,none⟩)] w λe w'=>e= .returned (.string ⟨l.toArray⟩)/\Below B w w':=Any.Builder_String_any Tryz.į Tryz.Tg B b l w h hBw
def Tryz.Qc:Go.Shelf.Ren:=⟨λ|105=>90|167=>92|212=>166|99=>167|165=>168|166=>89|170=>169|169=>54|263=>222|264=>223|206=>224|240=>165|241=>225|276=>221|277=>256|n=>n,λ|9=>9|3=>3|4=>4|20=>20|0=>0|46=>180|109=>181|5=>5|72=>95|76=>138|51=>201|146=>219|53=>221|148=>222|70=>92|37=>93|75=>137|127=>144|164=>217|80=>97|n=>n,λ|n=>n⟩
def Tryz.dU:Go.Proofs.Lays.n105 Tryz.prog Tryz.Qc:={
 mixed:=by kernel_rfl
 f99:=Tryz.func167.trans (congrArg some (by kernel_rfl))
 f105:=Tryz.func90.trans (congrArg some (by kernel_rfl))
 f165:=Tryz.func168.trans (congrArg some (by kernel_rfl))
 f166:=Tryz.func89.trans (congrArg some (by kernel_rfl))
 f169:=Tryz.func54.trans (congrArg some (by kernel_rfl))
 f170:=Tryz.func169.trans (congrArg some (by kernel_rfl))
 f206:=Tryz.func224.trans (congrArg some (by kernel_rfl))
 f212:=Tryz.func166.trans (congrArg some (by kernel_rfl))
 f240:=Tryz.func165.trans (congrArg some (by kernel_rfl))
 f241:=Tryz.func225.trans (congrArg some (by kernel_rfl))
 f263:=Tryz.func222.trans (congrArg some (by kernel_rfl))
 f264:=Tryz.func223.trans (congrArg some (by kernel_rfl))
 f276:=Tryz.func221.trans (congrArg some (by kernel_rfl))
 f277:=Tryz.func256.trans (congrArg some (by kernel_rfl))
 t0:=Tryz.underlying0
 a0:=Tryz.isAgg0
 z0:=Tryz.sizeOf0
 v0:=Tryz.zeroValue0
 t3:=Tryz.underlying3
 a3:=Tryz.isAgg3
 z3:=Tryz.sizeOf3
 v3:=Tryz.zeroValue3
 t4:=Tryz.underlying4
 a4:=Tryz.isAgg4
 z4:=Tryz.sizeOf4
 v4:=Tryz.zeroValue4
 t5:=Tryz.underlying5
 a5:=Tryz.isAgg5
 z5:=Tryz.sizeOf5
 v5:=Tryz.zeroValue5
 t9:=Tryz.underlying9
 a9:=Tryz.isAgg9
 z9:=Tryz.sizeOf9
 v9:=Tryz.zeroValue9
 t20:=Tryz.underlying20
 a20:=Tryz.isAgg20
 z20:=Tryz.sizeOf20
 v20:=Tryz.zeroValue20
 t37:=Tryz.underlying93
 a37:=Tryz.isAgg93
 z37:=Tryz.sizeOf93
 v37:=Tryz.zeroValue93
 t46:=Tryz.underlying180
 a46:=Tryz.isAgg180
 z46:=Tryz.sizeOf180
 v46:=Tryz.zeroValue180
 t51:=Tryz.underlying201
 a51:=Tryz.isAgg201
 z51:=Tryz.sizeOf201
 v51:=Tryz.zeroValue201
 t53:=Tryz.underlying221
 a53:=Tryz.isAgg221
 z53:=Tryz.sizeOf221
 v53:=Tryz.zeroValue221
 t70:=Tryz.underlying92
 a70:=Tryz.isAgg92
 z70:=Tryz.sizeOf92
 v70:=Tryz.zeroValue92
 t72:=Tryz.underlying95
 a72:=Tryz.isAgg95
 z72:=Tryz.sizeOf95
 v72:=Tryz.zeroValue95
 t75:=Tryz.underlying137
 a75:=Tryz.isAgg137
 z75:=Tryz.sizeOf137
 v75:=Tryz.zeroValue137
 t76:=Tryz.underlying138
 a76:=Tryz.isAgg138
 z76:=Tryz.sizeOf138
 v76:=Tryz.zeroValue138
 t109:=Tryz.underlying181
 a109:=Tryz.isAgg181
 z109:=Tryz.sizeOf181
 v109:=Tryz.zeroValue181
 t127:=Tryz.underlying144
 a127:=Tryz.isAgg144
 z127:=Tryz.sizeOf144
 v127:=Tryz.zeroValue144
 t146:=Tryz.underlying219
 a146:=Tryz.isAgg219
 z146:=Tryz.sizeOf219
 v146:=Tryz.zeroValue219
 t148:=Tryz.underlying222
 a148:=Tryz.isAgg222
 z148:=Tryz.sizeOf222
 v148:=Tryz.zeroValue222
 t164:=Tryz.underlying217
 a164:=Tryz.isAgg217
 z164:=Tryz.sizeOf217
 v164:=Tryz.zeroValue217}
def Tryz.Km:Builder.Extra Tryz.prog Tryz.Qc:={
 sizeBuilder:=by kernel_rfl
 liesBuilder:=by kernel_rfl
 t5:=Tryz.underlying5
 a5:=Tryz.isAgg5
 z5:=Tryz.sizeOf5
 v5:=Tryz.zeroValue5
 infoByte:=by kernel_rfl
 cellsByte:=by kernel_rfl
 sizeByte:=by kernel_rfl
 neB5:=by decide}
open Go.RowKit Go.Lib in
def Tryz.strings_Repeat(s:ByteArray)(c:Nat)(w:World)(hc:c<=9223372036854775807)(hlen:s.size*c<=140737488355328):
 Calls Tryz.prog 90 #[.string s,.int .i64 c] w λe w'=>e= .returned (.string ⟨(Lib.repeatL s.data.toList c).toArray⟩)/\Below w.heap.size w w':=Any.strings_Repeat Tryz.dU Tryz.Km s c w hc hlen
def Tryz.ZA:Go.Shelf.Ren:=⟨λ|21=>105|27=>182|28=>183|35=>234|39=>260|n=>n,λ|22=>53|3=>3|4=>4|0=>0|n=>n,λ|n=>n⟩
def Tryz.Od:Go.Proofs.Lays2.n21 Tryz.prog Tryz.ZA:={
 mixed:=by kernel_rfl
 f21:=Tryz.func105.trans (congrArg some (by kernel_rfl))
 f27:=Tryz.func182.trans (congrArg some (by kernel_rfl))
 f28:=Tryz.func183.trans (congrArg some (by kernel_rfl))
 f35:=Tryz.func234.trans (congrArg some (by kernel_rfl))
 f39:=Tryz.func260.trans (congrArg some (by kernel_rfl))
 t0:=Tryz.underlying0
 a0:=Tryz.isAgg0
 z0:=Tryz.sizeOf0
 v0:=Tryz.zeroValue0
 t3:=Tryz.underlying3
 a3:=Tryz.isAgg3
 z3:=Tryz.sizeOf3
 v3:=Tryz.zeroValue3
 t4:=Tryz.underlying4
 a4:=Tryz.isAgg4
 z4:=Tryz.sizeOf4
 v4:=Tryz.zeroValue4
 t22:=Tryz.underlying53
 a22:=Tryz.isAgg53
 z22:=Tryz.sizeOf53
 v22:=Tryz.zeroValue53
 i3:=by kernel_rfl}
def Tryz.İ:Go.Proofs.Lays.n167 Tryz.prog Tryz.Qc:={Tryz.dU with
 f167:=Tryz.func92.trans (congrArg some (by kernel_rfl))}
open Go.RowKit in
def Tryz.Builder_WriteByte(B b:Nat)(bs:List Value)(c:Int)(w:World)(h:Lib.IsBuilder 95 5 B b bs w)(hlen:bs.length+1<=140737488355328)(hBw:B<=w.heap.size):
 Calls Tryz.prog 92 #[.pointer (some ⟨b,0,none⟩),.int .u8 c] w λe w'=>e= .returned .nilIface/\(Lib.BuilderAt 95 5 B b (.pointer (some ⟨b,0,none⟩)) (bs++[.int .u8 c]) w'/\Below B w w'):=Any.Builder_WriteByte Tryz.İ Tryz.Km B b bs c w h hlen hBw
open Go.RowKit in
def Tryz.Builder_WriteString(B b:Nat)(bs:List Value)(s:ByteArray)(w:World)(h:Lib.IsBuilder 95 5 B b bs w)(hlen:bs.length+s.size<=140737488355328)(hBw:B<=w.heap.size):
 Calls Tryz.prog 89 #[.pointer (some ⟨b,0,none⟩),.string s] w λe w'=>e= .returned (.tuple #[.int .i64 s.size,.nilIface])/\(Lib.BuilderAt 95 5 B b (.pointer (some ⟨b,0,none⟩)) (bs++Lib.strCells s) w'/\Below B w w'):=Any.Builder_WriteString {Tryz.dU with} Tryz.Km B b bs s w h hlen hBw
end Go.Proofs
