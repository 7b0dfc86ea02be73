/- Lemmas -/
import Derived.Shelf.Strings.Repeat
import Derived.Shelf.Spec.SlicesInsertGrow
import Derived.Test.YtjjnhgoknielgaaGreatDoorProg
set_option linter.all false
namespace Go.Proofs
open Go.Shelf
def Tryz.VQ:Go.Shelf.Ren:=⟨λ|169=>37|n=>n,λ|70=>94|9=>9|0=>0|72=>96|37=>79|127=>111|3=>3|5=>5|n=>n,λ|n=>n⟩
def Tryz.aAE:Go.Proofs.Lays.n169 Tryz.prog Tryz.VQ:={
 mixed:=by kernel_rfl
 f169:=Tryz.func37.trans (congrArg some (by kernel_rfl))
 t0:=Tryz.underlying0
 a0:=Tryz.isAgg0
 z0:=Tryz.sizeOf0
 v0:=Tryz.zeroValue0
 t3:=Tryz.underlying3
 a3:=Tryz.isAgg3
 z3:=Tryz.sizeOf3
 v3:=Tryz.zeroValue3
 t9:=Tryz.underlying9
 a9:=Tryz.isAgg9
 z9:=Tryz.sizeOf9
 v9:=Tryz.zeroValue9
 t37:=Tryz.underlying79
 a37:=Tryz.isAgg79
 z37:=Tryz.sizeOf79
 v37:=Tryz.zeroValue79
 t70:=Tryz.underlying94
 a70:=Tryz.isAgg94
 z70:=Tryz.sizeOf94
 v70:=Tryz.zeroValue94
 t72:=Tryz.underlying96
 a72:=Tryz.isAgg96
 z72:=Tryz.sizeOf96
 v72:=Tryz.zeroValue96
 t127:=Tryz.underlying111
 a127:=Tryz.isAgg111
 z127:=Tryz.sizeOf111
 v127:=Tryz.zeroValue111}
def Tryz.TK:Builder.Extra Tryz.prog Tryz.VQ:={
 sizeBuilder:=by kernel_rfl
 liesBuilder:=by kernel_rfl
 t5:=Tryz.underlying5
 a5:=Tryz.isAgg5
 z5:=Tryz.sizeOf5
 v5:=Tryz.zeroValue5
 infoByte:=by kernel_rfl
 cellsByte:=by kernel_rfl
 sizeByte:=by kernel_rfl
 neB5:=by decide}
open Go.RowKit in
def Tryz.Builder_String_any(B b:Nat)(l:List UInt8)(w:World)(h:Lib.IsBuilder 96 5 B b (Lib.byteCells l) w)(hBw:B<=w.heap.size):
 Calls Tryz.prog 37 #[.pointer (some ⟨b,0,none⟩)] w λe w'=>e= .returned (.string ⟨l.toArray⟩)/\Below B w w':=Any.Builder_String_any Tryz.aAE Tryz.TK B b l w h hBw
def Tryz.QL:Go.Shelf.Ren:=⟨λ|105=>42|167=>44|212=>55|99=>56|165=>57|166=>41|170=>58|169=>37|263=>94|264=>95|206=>96|240=>54|241=>97|276=>93|277=>174|n=>n,λ|9=>9|3=>3|4=>4|20=>20|0=>0|46=>112|109=>113|5=>5|72=>96|76=>105|51=>145|146=>146|53=>148|148=>149|70=>94|37=>79|75=>104|127=>111|164=>143|80=>98|n=>n,λ|n=>n⟩
def Tryz.gP:Go.Proofs.Lays.n105 Tryz.prog Tryz.QL:={
 mixed:=by kernel_rfl
 f99:=Tryz.func56.trans (congrArg some (by kernel_rfl))
 f105:=Tryz.func42.trans (congrArg some (by kernel_rfl))
 f165:=Tryz.func57.trans (congrArg some (by kernel_rfl))
 f166:=Tryz.func41.trans (congrArg some (by kernel_rfl))
 f169:=Tryz.func37.trans (congrArg some (by kernel_rfl))
 f170:=Tryz.func58.trans (congrArg some (by kernel_rfl))
 f206:=Tryz.func96.trans (congrArg some (by kernel_rfl))
 f212:=Tryz.func55.trans (congrArg some (by kernel_rfl))
 f240:=Tryz.func54.trans (congrArg some (by kernel_rfl))
 f241:=Tryz.func97.trans (congrArg some (by kernel_rfl))
 f263:=Tryz.func94.trans (congrArg some (by kernel_rfl))
 f264:=Tryz.func95.trans (congrArg some (by kernel_rfl))
 f276:=Tryz.func93.trans (congrArg some (by kernel_rfl))
 f277:=Tryz.func174.trans (congrArg some (by kernel_rfl))
 t0:=Tryz.underlying0
 a0:=Tryz.isAgg0
 z0:=Tryz.sizeOf0
 v0:=Tryz.zeroValue0
 t3:=Tryz.underlying3
 a3:=Tryz.isAgg3
 z3:=Tryz.sizeOf3
 v3:=Tryz.zeroValue3
 t4:=Tryz.underlying4
 a4:=Tryz.isAgg4
 z4:=Tryz.sizeOf4
 v4:=Tryz.zeroValue4
 t5:=Tryz.underlying5
 a5:=Tryz.isAgg5
 z5:=Tryz.sizeOf5
 v5:=Tryz.zeroValue5
 t9:=Tryz.underlying9
 a9:=Tryz.isAgg9
 z9:=Tryz.sizeOf9
 v9:=Tryz.zeroValue9
 t20:=Tryz.underlying20
 a20:=Tryz.isAgg20
 z20:=Tryz.sizeOf20
 v20:=Tryz.zeroValue20
 t37:=Tryz.underlying79
 a37:=Tryz.isAgg79
 z37:=Tryz.sizeOf79
 v37:=Tryz.zeroValue79
 t46:=Tryz.underlying112
 a46:=Tryz.isAgg112
 z46:=Tryz.sizeOf112
 v46:=Tryz.zeroValue112
 t51:=Tryz.underlying145
 a51:=Tryz.isAgg145
 z51:=Tryz.sizeOf145
 v51:=Tryz.zeroValue145
 t53:=Tryz.underlying148
 a53:=Tryz.isAgg148
 z53:=Tryz.sizeOf148
 v53:=Tryz.zeroValue148
 t70:=Tryz.underlying94
 a70:=Tryz.isAgg94
 z70:=Tryz.sizeOf94
 v70:=Tryz.zeroValue94
 t72:=Tryz.underlying96
 a72:=Tryz.isAgg96
 z72:=Tryz.sizeOf96
 v72:=Tryz.zeroValue96
 t75:=Tryz.underlying104
 a75:=Tryz.isAgg104
 z75:=Tryz.sizeOf104
 v75:=Tryz.zeroValue104
 t76:=Tryz.underlying105
 a76:=Tryz.isAgg105
 z76:=Tryz.sizeOf105
 v76:=Tryz.zeroValue105
 t109:=Tryz.underlying113
 a109:=Tryz.isAgg113
 z109:=Tryz.sizeOf113
 v109:=Tryz.zeroValue113
 t127:=Tryz.underlying111
 a127:=Tryz.isAgg111
 z127:=Tryz.sizeOf111
 v127:=Tryz.zeroValue111
 t146:=Tryz.underlying146
 a146:=Tryz.isAgg146
 z146:=Tryz.sizeOf146
 v146:=Tryz.zeroValue146
 t148:=Tryz.underlying149
 a148:=Tryz.isAgg149
 z148:=Tryz.sizeOf149
 v148:=Tryz.zeroValue149
 t164:=Tryz.underlying143
 a164:=Tryz.isAgg143
 z164:=Tryz.sizeOf143
 v164:=Tryz.zeroValue143}
def Tryz.KS:Builder.Extra Tryz.prog Tryz.QL:={
 sizeBuilder:=by kernel_rfl
 liesBuilder:=by kernel_rfl
 t5:=Tryz.underlying5
 a5:=Tryz.isAgg5
 z5:=Tryz.sizeOf5
 v5:=Tryz.zeroValue5
 infoByte:=by kernel_rfl
 cellsByte:=by kernel_rfl
 sizeByte:=by kernel_rfl
 neB5:=by decide}
open Go.RowKit Go.Lib in
def Tryz.strings_Repeat(s:ByteArray)(c:Nat)(w:World)(hc:c<=9223372036854775807)(hlen:s.size*c<=140737488355328):
 Calls Tryz.prog 42 #[.string s,.int .i64 c] w λe w'=>e= .returned (.string ⟨(Lib.repeatL s.data.toList c).toArray⟩)/\Below w.heap.size w w':=Any.strings_Repeat Tryz.gP Tryz.KS s c w hc hlen
def Tryz.aO:Go.Shelf.Ren:=⟨λ|21=>112|27=>186|28=>187|35=>237|39=>270|n=>n,λ|22=>33|3=>3|4=>4|0=>0|n=>n,λ|n=>n⟩
def Tryz.OM:Go.Proofs.Lays2.n21 Tryz.prog Tryz.aO:={
 mixed:=by kernel_rfl
 f21:=Tryz.func112.trans (congrArg some (by kernel_rfl))
 f27:=Tryz.func186.trans (congrArg some (by kernel_rfl))
 f28:=Tryz.func187.trans (congrArg some (by kernel_rfl))
 f35:=Tryz.func237.trans (congrArg some (by kernel_rfl))
 f39:=Tryz.func270.trans (congrArg some (by kernel_rfl))
 t0:=Tryz.underlying0
 a0:=Tryz.isAgg0
 z0:=Tryz.sizeOf0
 v0:=Tryz.zeroValue0
 t3:=Tryz.underlying3
 a3:=Tryz.isAgg3
 z3:=Tryz.sizeOf3
 v3:=Tryz.zeroValue3
 t4:=Tryz.underlying4
 a4:=Tryz.isAgg4
 z4:=Tryz.sizeOf4
 v4:=Tryz.zeroValue4
 t22:=Tryz.underlying33
 a22:=Tryz.isAgg33
 z22:=Tryz.sizeOf33
 v22:=Tryz.zeroValue33
 i3:=by kernel_rfl}
def Tryz.aAF:Go.Proofs.Lays.n167 Tryz.prog Tryz.QL:={Tryz.gP with
 f167:=Tryz.func44.trans (congrArg some (by kernel_rfl))}
open Go.RowKit in
def Tryz.Builder_WriteByte(B b:Nat)(bs:List Value)(c:Int)(w:World)(h:Lib.IsBuilder 96 5 B b bs w)(hlen:bs.length+1<=140737488355328)(hBw:B<=w.heap.size):
 Calls Tryz.prog 44 #[.pointer (some ⟨b,0,none⟩),.int .u8 c] w λe w'=>e= .returned .nilIface/\(Lib.BuilderAt 96 5 B b (.pointer (some ⟨b,0,none⟩)) (bs++[.int .u8 c]) w'/\Below B w w'):=Any.Builder_WriteByte Tryz.aAF Tryz.KS B b bs c w h hlen hBw
open Go.RowKit in
def Tryz.Builder_WriteString(B b:Nat)(bs:List Value)(s:ByteArray)(w:World)(h:Lib.IsBuilder 96 5 B b bs w)(hlen:bs.length+s.size<=140737488355328)(hBw:B<=w.heap.size):
 Calls Tryz.prog 41 #[.pointer (some ⟨b,0,none⟩),.string s] w λe w'=>e= .returned (.tuple #[.int .i64 s.size,.nilIface])/\(Lib.BuilderAt 96 5 B b (.pointer (some ⟨b,0,none⟩)) (bs++Lib.strCells s) w'/\Below B w w'):=Any.Builder_WriteString {Tryz.gP with} Tryz.KS B b bs s w h hlen hBw
end Go.Proofs
