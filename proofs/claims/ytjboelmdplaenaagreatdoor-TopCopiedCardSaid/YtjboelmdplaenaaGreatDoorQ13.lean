/- Lemmas -/
import Derived.Shelf.Strings.Repeat
import Derived.Shelf.Spec.SlicesInsertGrow
import Derived.Test.YtjboelmdplaenaaGreatDoorProg
set_option linter.unusedVariables false
set_option linter.unusedSimpArgs false
namespace Go.Proofs
open Go.Shelf
def Tryz.lays169_ren:Go.Shelf.Ren:=⟨λ|169=>35|n=>n,λ|70=>72|9=>9|0=>0|72=>75|37=>73|127=>118|3=>3|5=>5|n=>n,λ|n=>n⟩
theorem Tryz.lays169:Go.Proofs.Lays.n169 Tryz.prog Tryz.lays169_ren:={
 mixed:=by kernel_rfl
 f169:=Tryz.func35.trans (congrArg some (by kernel_rfl))
 t0:=Tryz.underlying0
 a0:=Tryz.isAgg0
 z0:=Tryz.sizeOf0
 v0:=Tryz.zeroValue0
 t3:=Tryz.underlying3
 a3:=Tryz.isAgg3
 z3:=Tryz.sizeOf3
 v3:=Tryz.zeroValue3
 t9:=Tryz.underlying9
 a9:=Tryz.isAgg9
 z9:=Tryz.sizeOf9
 v9:=Tryz.zeroValue9
 t37:=Tryz.underlying73
 a37:=Tryz.isAgg73
 z37:=Tryz.sizeOf73
 v37:=Tryz.zeroValue73
 t70:=Tryz.underlying72
 a70:=Tryz.isAgg72
 z70:=Tryz.sizeOf72
 v70:=Tryz.zeroValue72
 t72:=Tryz.underlying75
 a72:=Tryz.isAgg75
 z72:=Tryz.sizeOf75
 v72:=Tryz.zeroValue75
 t127:=Tryz.underlying118
 a127:=Tryz.isAgg118
 z127:=Tryz.sizeOf118
 v127:=Tryz.zeroValue118}
theorem Tryz.Builder_Extra_169:Builder.Extra Tryz.prog Tryz.lays169_ren:={
 sizeBuilder:=by kernel_rfl
 liesBuilder:=by kernel_rfl
 t5:=Tryz.underlying5
 a5:=Tryz.isAgg5
 z5:=Tryz.sizeOf5
 v5:=Tryz.zeroValue5
 infoByte:=by kernel_rfl
 cellsByte:=by kernel_rfl
 sizeByte:=by kernel_rfl
 neB5:=by decide}
open Go.RowKit in
theorem Tryz.Builder_String_any (B b:Nat) (l:List UInt8) (w:World) (h:Lib.IsBuilder 75 5 B b (Lib.byteCells l) w) (hBw:B≤w.heap.size):
 Calls Tryz.prog 35 #[.pointer (some ⟨b,0,none⟩)] w λe w'=>e= .returned (.string ⟨l.toArray⟩)∧Below B w w':=Any.Builder_String_any Tryz.lays169 Tryz.Builder_Extra_169 B b l w h hBw
def Tryz.lays105_ren:Go.Shelf.Ren:=⟨λ|105=>77|167=>79|212=>115|99=>116|165=>117|166=>76|170=>118|169=>35|263=>141|264=>142|206=>143|240=>114|241=>144|276=>140|277=>158|n=>n,λ|9=>9|3=>3|4=>4|20=>20|0=>0|46=>148|109=>149|5=>5|72=>75|76=>113|51=>169|146=>170|53=>172|148=>173|70=>72|37=>73|75=>112|127=>118|164=>167|80=>77|n=>n,λ|n=>n⟩
theorem Tryz.lays105:Go.Proofs.Lays.n105 Tryz.prog Tryz.lays105_ren:={
 mixed:=by kernel_rfl
 f99:=Tryz.func116.trans (congrArg some (by kernel_rfl))
 f105:=Tryz.func77.trans (congrArg some (by kernel_rfl))
 f165:=Tryz.func117.trans (congrArg some (by kernel_rfl))
 f166:=Tryz.func76.trans (congrArg some (by kernel_rfl))
 f169:=Tryz.func35.trans (congrArg some (by kernel_rfl))
 f170:=Tryz.func118.trans (congrArg some (by kernel_rfl))
 f206:=Tryz.func143.trans (congrArg some (by kernel_rfl))
 f212:=Tryz.func115.trans (congrArg some (by kernel_rfl))
 f240:=Tryz.func114.trans (congrArg some (by kernel_rfl))
 f241:=Tryz.func144.trans (congrArg some (by kernel_rfl))
 f263:=Tryz.func141.trans (congrArg some (by kernel_rfl))
 f264:=Tryz.func142.trans (congrArg some (by kernel_rfl))
 f276:=Tryz.func140.trans (congrArg some (by kernel_rfl))
 f277:=Tryz.func158.trans (congrArg some (by kernel_rfl))
 t0:=Tryz.underlying0
 a0:=Tryz.isAgg0
 z0:=Tryz.sizeOf0
 v0:=Tryz.zeroValue0
 t3:=Tryz.underlying3
 a3:=Tryz.isAgg3
 z3:=Tryz.sizeOf3
 v3:=Tryz.zeroValue3
 t4:=Tryz.underlying4
 a4:=Tryz.isAgg4
 z4:=Tryz.sizeOf4
 v4:=Tryz.zeroValue4
 t5:=Tryz.underlying5
 a5:=Tryz.isAgg5
 z5:=Tryz.sizeOf5
 v5:=Tryz.zeroValue5
 t9:=Tryz.underlying9
 a9:=Tryz.isAgg9
 z9:=Tryz.sizeOf9
 v9:=Tryz.zeroValue9
 t20:=Tryz.underlying20
 a20:=Tryz.isAgg20
 z20:=Tryz.sizeOf20
 v20:=Tryz.zeroValue20
 t37:=Tryz.underlying73
 a37:=Tryz.isAgg73
 z37:=Tryz.sizeOf73
 v37:=Tryz.zeroValue73
 t46:=Tryz.underlying148
 a46:=Tryz.isAgg148
 z46:=Tryz.sizeOf148
 v46:=Tryz.zeroValue148
 t51:=Tryz.underlying169
 a51:=Tryz.isAgg169
 z51:=Tryz.sizeOf169
 v51:=Tryz.zeroValue169
 t53:=Tryz.underlying172
 a53:=Tryz.isAgg172
 z53:=Tryz.sizeOf172
 v53:=Tryz.zeroValue172
 t70:=Tryz.underlying72
 a70:=Tryz.isAgg72
 z70:=Tryz.sizeOf72
 v70:=Tryz.zeroValue72
 t72:=Tryz.underlying75
 a72:=Tryz.isAgg75
 z72:=Tryz.sizeOf75
 v72:=Tryz.zeroValue75
 t75:=Tryz.underlying112
 a75:=Tryz.isAgg112
 z75:=Tryz.sizeOf112
 v75:=Tryz.zeroValue112
 t76:=Tryz.underlying113
 a76:=Tryz.isAgg113
 z76:=Tryz.sizeOf113
 v76:=Tryz.zeroValue113
 t109:=Tryz.underlying149
 a109:=Tryz.isAgg149
 z109:=Tryz.sizeOf149
 v109:=Tryz.zeroValue149
 t127:=Tryz.underlying118
 a127:=Tryz.isAgg118
 z127:=Tryz.sizeOf118
 v127:=Tryz.zeroValue118
 t146:=Tryz.underlying170
 a146:=Tryz.isAgg170
 z146:=Tryz.sizeOf170
 v146:=Tryz.zeroValue170
 t148:=Tryz.underlying173
 a148:=Tryz.isAgg173
 z148:=Tryz.sizeOf173
 v148:=Tryz.zeroValue173
 t164:=Tryz.underlying167
 a164:=Tryz.isAgg167
 z164:=Tryz.sizeOf167
 v164:=Tryz.zeroValue167}
theorem Tryz.Builder_Extra_105:Builder.Extra Tryz.prog Tryz.lays105_ren:={
 sizeBuilder:=by kernel_rfl
 liesBuilder:=by kernel_rfl
 t5:=Tryz.underlying5
 a5:=Tryz.isAgg5
 z5:=Tryz.sizeOf5
 v5:=Tryz.zeroValue5
 infoByte:=by kernel_rfl
 cellsByte:=by kernel_rfl
 sizeByte:=by kernel_rfl
 neB5:=by decide}
open Go.RowKit Go.Lib in
theorem Tryz.strings_Repeat (s:ByteArray) (c:Nat) (w:World) (hc:c≤9223372036854775807) (hlen:s.size*c≤140737488355328):
 Calls Tryz.prog 77 #[.string s,.int .i64 c] w λe w'=>e= .returned (.string ⟨(Lib.repeatL s.data.toList c).toArray⟩)∧Below w.heap.size w w':=Any.strings_Repeat Tryz.lays105 Tryz.Builder_Extra_105 s c w hc hlen
def Tryz.laysNm221_ren:Go.Shelf.Ren:=⟨λ|21=>102|27=>132|28=>133|35=>150|39=>163|n=>n,λ|22=>28|3=>3|4=>4|0=>0|n=>n,λ|n=>n⟩
theorem Tryz.laysNm221:Go.Proofs.Lays2.n21 Tryz.prog Tryz.laysNm221_ren:={
 mixed:=by kernel_rfl
 f21:=Tryz.func102.trans (congrArg some (by kernel_rfl))
 f27:=Tryz.func132.trans (congrArg some (by kernel_rfl))
 f28:=Tryz.func133.trans (congrArg some (by kernel_rfl))
 f35:=Tryz.func150.trans (congrArg some (by kernel_rfl))
 f39:=Tryz.func163.trans (congrArg some (by kernel_rfl))
 t0:=Tryz.underlying0
 a0:=Tryz.isAgg0
 z0:=Tryz.sizeOf0
 v0:=Tryz.zeroValue0
 t3:=Tryz.underlying3
 a3:=Tryz.isAgg3
 z3:=Tryz.sizeOf3
 v3:=Tryz.zeroValue3
 t4:=Tryz.underlying4
 a4:=Tryz.isAgg4
 z4:=Tryz.sizeOf4
 v4:=Tryz.zeroValue4
 t22:=Tryz.underlying28
 a22:=Tryz.isAgg28
 z22:=Tryz.sizeOf28
 v22:=Tryz.zeroValue28
 i3:=by kernel_rfl}
theorem Tryz.lays167:Go.Proofs.Lays.n167 Tryz.prog Tryz.lays105_ren:={Tryz.lays105 with
 f167:=Tryz.func79.trans (congrArg some (by kernel_rfl))}
open Go.RowKit in
theorem Tryz.Builder_WriteByte (B b:Nat) (bs:List Value) (c:Int) (w:World) (h:Lib.IsBuilder 75 5 B b bs w) (hlen:bs.length+1≤140737488355328) (hBw:B≤w.heap.size):
 Calls Tryz.prog 79 #[.pointer (some ⟨b,0,none⟩),.int .u8 c] w λe w'=>e= .returned .nilIface∧(Lib.BuilderAt 75 5 B b (.pointer (some ⟨b,0,none⟩)) (bs++[.int .u8 c]) w'∧Below B w w'):=Any.Builder_WriteByte Tryz.lays167 Tryz.Builder_Extra_105 B b bs c w h hlen hBw
open Go.RowKit in
theorem Tryz.Builder_WriteString (B b:Nat) (bs:List Value) (s:ByteArray) (w:World) (h:Lib.IsBuilder 75 5 B b bs w) (hlen:bs.length+s.size≤140737488355328) (hBw:B≤w.heap.size):
 Calls Tryz.prog 76 #[.pointer (some ⟨b,0,none⟩),.string s] w λe w'=>e= .returned (.tuple #[.int .i64 s.size,.nilIface])∧(Lib.BuilderAt 75 5 B b (.pointer (some ⟨b,0,none⟩)) (bs++Lib.strCells s) w'∧Below B w w'):=Any.Builder_WriteString {Tryz.lays105 with} Tryz.Builder_Extra_105 B b bs s w h hlen hBw
end Go.Proofs
