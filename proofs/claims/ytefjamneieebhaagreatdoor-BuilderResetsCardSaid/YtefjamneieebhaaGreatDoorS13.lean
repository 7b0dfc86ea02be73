/- Lemmas -/
import Derived.Shelf.Strings.Repeat
import Derived.Shelf.Spec.SlicesInsertGrow
import Derived.Test.YtefjamneieebhaaGreatDoorProg
set_option linter.unusedVariables false
set_option linter.unusedSimpArgs false
namespace Go.Proofs
open Go.Shelf
def Tryz.SY:Go.Shelf.Ren:=⟨λ|169=>66|n=>n,λ|70=>125|9=>9|0=>0|72=>127|37=>115|127=>206|3=>3|5=>5|n=>n,λ|n=>n⟩
theorem Tryz.gu:Go.Proofs.Lays.n169 Tryz.prog Tryz.SY:={
 mixed:=by kernel_rfl
 f169:=Tryz.func66.trans (congrArg some (by kernel_rfl))
 t0:=Tryz.underlying0
 a0:=Tryz.isAgg0
 z0:=Tryz.sizeOf0
 v0:=Tryz.zeroValue0
 t3:=Tryz.underlying3
 a3:=Tryz.isAgg3
 z3:=Tryz.sizeOf3
 v3:=Tryz.zeroValue3
 t9:=Tryz.underlying9
 a9:=Tryz.isAgg9
 z9:=Tryz.sizeOf9
 v9:=Tryz.zeroValue9
 t37:=Tryz.underlying115
 a37:=Tryz.isAgg115
 z37:=Tryz.sizeOf115
 v37:=Tryz.zeroValue115
 t70:=Tryz.underlying125
 a70:=Tryz.isAgg125
 z70:=Tryz.sizeOf125
 v70:=Tryz.zeroValue125
 t72:=Tryz.underlying127
 a72:=Tryz.isAgg127
 z72:=Tryz.sizeOf127
 v72:=Tryz.zeroValue127
 t127:=Tryz.underlying206
 a127:=Tryz.isAgg206
 z127:=Tryz.sizeOf206
 v127:=Tryz.zeroValue206}
theorem Tryz.QP:Builder.Extra Tryz.prog Tryz.SY:={
 sizeBuilder:=by kernel_rfl
 liesBuilder:=by kernel_rfl
 t5:=Tryz.underlying5
 a5:=Tryz.isAgg5
 z5:=Tryz.sizeOf5
 v5:=Tryz.zeroValue5
 infoByte:=by kernel_rfl
 cellsByte:=by kernel_rfl
 sizeByte:=by kernel_rfl
 neB5:=by decide}
open Go.RowKit in
theorem Tryz.Builder_String_any(B b:Nat)(l:List UInt8)(w:World)(h:Lib.IsBuilder 127 5 B b (Lib.byteCells l) w)(hBw:B<=w.heap.size):
 Calls Tryz.prog 66 #[.pointer (some ⟨b,0,none⟩)] w λe w'=>e= .returned (.string ⟨l.toArray⟩)/\Below B w w':=Any.Builder_String_any Tryz.gu Tryz.QP B b l w h hBw
def Tryz.Oa:Go.Shelf.Ren:=⟨λ|105=>161|167=>163|212=>237|99=>238|165=>239|166=>160|170=>240|169=>66|263=>281|264=>282|206=>283|240=>236|241=>284|276=>280|277=>300|n=>n,λ|9=>9|3=>3|4=>4|20=>20|0=>0|46=>246|109=>250|5=>5|72=>127|76=>200|51=>194|146=>275|53=>277|148=>278|70=>125|37=>115|75=>199|127=>206|164=>273|80=>129|n=>n,λ|n=>n⟩
theorem Tryz.Yu:Go.Proofs.Lays.n105 Tryz.prog Tryz.Oa:={
 mixed:=by kernel_rfl
 f99:=Tryz.func238.trans (congrArg some (by kernel_rfl))
 f105:=Tryz.func161.trans (congrArg some (by kernel_rfl))
 f165:=Tryz.func239.trans (congrArg some (by kernel_rfl))
 f166:=Tryz.func160.trans (congrArg some (by kernel_rfl))
 f169:=Tryz.func66.trans (congrArg some (by kernel_rfl))
 f170:=Tryz.func240.trans (congrArg some (by kernel_rfl))
 f206:=Tryz.func283.trans (congrArg some (by kernel_rfl))
 f212:=Tryz.func237.trans (congrArg some (by kernel_rfl))
 f240:=Tryz.func236.trans (congrArg some (by kernel_rfl))
 f241:=Tryz.func284.trans (congrArg some (by kernel_rfl))
 f263:=Tryz.func281.trans (congrArg some (by kernel_rfl))
 f264:=Tryz.func282.trans (congrArg some (by kernel_rfl))
 f276:=Tryz.func280.trans (congrArg some (by kernel_rfl))
 f277:=Tryz.func300.trans (congrArg some (by kernel_rfl))
 t0:=Tryz.underlying0
 a0:=Tryz.isAgg0
 z0:=Tryz.sizeOf0
 v0:=Tryz.zeroValue0
 t3:=Tryz.underlying3
 a3:=Tryz.isAgg3
 z3:=Tryz.sizeOf3
 v3:=Tryz.zeroValue3
 t4:=Tryz.underlying4
 a4:=Tryz.isAgg4
 z4:=Tryz.sizeOf4
 v4:=Tryz.zeroValue4
 t5:=Tryz.underlying5
 a5:=Tryz.isAgg5
 z5:=Tryz.sizeOf5
 v5:=Tryz.zeroValue5
 t9:=Tryz.underlying9
 a9:=Tryz.isAgg9
 z9:=Tryz.sizeOf9
 v9:=Tryz.zeroValue9
 t20:=Tryz.underlying20
 a20:=Tryz.isAgg20
 z20:=Tryz.sizeOf20
 v20:=Tryz.zeroValue20
 t37:=Tryz.underlying115
 a37:=Tryz.isAgg115
 z37:=Tryz.sizeOf115
 v37:=Tryz.zeroValue115
 t46:=Tryz.underlying246
 a46:=Tryz.isAgg246
 z46:=Tryz.sizeOf246
 v46:=Tryz.zeroValue246
 t51:=Tryz.underlying194
 a51:=Tryz.isAgg194
 z51:=Tryz.sizeOf194
 v51:=Tryz.zeroValue194
 t53:=Tryz.underlying277
 a53:=Tryz.isAgg277
 z53:=Tryz.sizeOf277
 v53:=Tryz.zeroValue277
 t70:=Tryz.underlying125
 a70:=Tryz.isAgg125
 z70:=Tryz.sizeOf125
 v70:=Tryz.zeroValue125
 t72:=Tryz.underlying127
 a72:=Tryz.isAgg127
 z72:=Tryz.sizeOf127
 v72:=Tryz.zeroValue127
 t75:=Tryz.underlying199
 a75:=Tryz.isAgg199
 z75:=Tryz.sizeOf199
 v75:=Tryz.zeroValue199
 t76:=Tryz.underlying200
 a76:=Tryz.isAgg200
 z76:=Tryz.sizeOf200
 v76:=Tryz.zeroValue200
 t109:=Tryz.underlying250
 a109:=Tryz.isAgg250
 z109:=Tryz.sizeOf250
 v109:=Tryz.zeroValue250
 t127:=Tryz.underlying206
 a127:=Tryz.isAgg206
 z127:=Tryz.sizeOf206
 v127:=Tryz.zeroValue206
 t146:=Tryz.underlying275
 a146:=Tryz.isAgg275
 z146:=Tryz.sizeOf275
 v146:=Tryz.zeroValue275
 t148:=Tryz.underlying278
 a148:=Tryz.isAgg278
 z148:=Tryz.sizeOf278
 v148:=Tryz.zeroValue278
 t164:=Tryz.underlying273
 a164:=Tryz.isAgg273
 z164:=Tryz.sizeOf273
 v164:=Tryz.zeroValue273}
theorem Tryz.Ja:Builder.Extra Tryz.prog Tryz.Oa:={
 sizeBuilder:=by kernel_rfl
 liesBuilder:=by kernel_rfl
 t5:=Tryz.underlying5
 a5:=Tryz.isAgg5
 z5:=Tryz.sizeOf5
 v5:=Tryz.zeroValue5
 infoByte:=by kernel_rfl
 cellsByte:=by kernel_rfl
 sizeByte:=by kernel_rfl
 neB5:=by decide}
open Go.RowKit Go.Lib in
theorem Tryz.strings_Repeat(s:ByteArray)(c:Nat)(w:World)(hc:c<=9223372036854775807)(hlen:s.size*c<=140737488355328):
 Calls Tryz.prog 161 #[.string s,.int .i64 c] w λe w'=>e= .returned (.string ⟨(Lib.repeatL s.data.toList c).toArray⟩)/\Below w.heap.size w w':=Any.strings_Repeat Tryz.Yu Tryz.Ja s c w hc hlen
def Tryz.WH:Go.Shelf.Ren:=⟨λ|21=>235|27=>278|28=>279|35=>299|39=>307|n=>n,λ|22=>29|3=>3|4=>4|0=>0|n=>n,λ|n=>n⟩
theorem Tryz.Mn:Go.Proofs.Lays2.n21 Tryz.prog Tryz.WH:={
 mixed:=by kernel_rfl
 f21:=Tryz.func235.trans (congrArg some (by kernel_rfl))
 f27:=Tryz.func278.trans (congrArg some (by kernel_rfl))
 f28:=Tryz.func279.trans (congrArg some (by kernel_rfl))
 f35:=Tryz.func299.trans (congrArg some (by kernel_rfl))
 f39:=Tryz.func307.trans (congrArg some (by kernel_rfl))
 t0:=Tryz.underlying0
 a0:=Tryz.isAgg0
 z0:=Tryz.sizeOf0
 v0:=Tryz.zeroValue0
 t3:=Tryz.underlying3
 a3:=Tryz.isAgg3
 z3:=Tryz.sizeOf3
 v3:=Tryz.zeroValue3
 t4:=Tryz.underlying4
 a4:=Tryz.isAgg4
 z4:=Tryz.sizeOf4
 v4:=Tryz.zeroValue4
 t22:=Tryz.underlying29
 a22:=Tryz.isAgg29
 z22:=Tryz.sizeOf29
 v22:=Tryz.zeroValue29
 i3:=by kernel_rfl}
theorem Tryz.gw:Go.Proofs.Lays.n167 Tryz.prog Tryz.Oa:={Tryz.Yu with
 f167:=Tryz.func163.trans (congrArg some (by kernel_rfl))}
open Go.RowKit in
theorem Tryz.Builder_WriteByte(B b:Nat)(bs:List Value)(c:Int)(w:World)(h:Lib.IsBuilder 127 5 B b bs w)(hlen:bs.length+1<=140737488355328)(hBw:B<=w.heap.size):
 Calls Tryz.prog 163 #[.pointer (some ⟨b,0,none⟩),.int .u8 c] w λe w'=>e= .returned .nilIface/\(Lib.BuilderAt 127 5 B b (.pointer (some ⟨b,0,none⟩)) (bs++[.int .u8 c]) w'/\Below B w w'):=Any.Builder_WriteByte Tryz.gw Tryz.Ja B b bs c w h hlen hBw
open Go.RowKit in
theorem Tryz.Builder_WriteString(B b:Nat)(bs:List Value)(s:ByteArray)(w:World)(h:Lib.IsBuilder 127 5 B b bs w)(hlen:bs.length+s.size<=140737488355328)(hBw:B<=w.heap.size):
 Calls Tryz.prog 160 #[.pointer (some ⟨b,0,none⟩),.string s] w λe w'=>e= .returned (.tuple #[.int .i64 s.size,.nilIface])/\(Lib.BuilderAt 127 5 B b (.pointer (some ⟨b,0,none⟩)) (bs++Lib.strCells s) w'/\Below B w w'):=Any.Builder_WriteString {Tryz.Yu with} Tryz.Ja B b bs s w h hlen hBw
end Go.Proofs
