/- Lemmas -/
import Derived.Shelf.Strings.Repeat
import Derived.Shelf.Spec.SlicesInsertGrow
import Derived.Test.YtemolpggcmbieaaGreatDoorProg
set_option linter.all false
namespace Go.Proofs
open Go.Shelf
def Tryz.Uk:Go.Shelf.Ren:=⟨λ|169=>94|n=>n,λ|70=>139|9=>9|0=>0|72=>142|37=>140|127=>208|3=>3|5=>5|n=>n,λ|n=>n⟩
def Tryz.zb:Go.Proofs.Lays.n169 Tryz.prog Tryz.Uk:={
 mixed:=by kernel_rfl
 f169:=Tryz.func94.trans (congrArg some (by kernel_rfl))
 t0:=Tryz.underlying0
 a0:=Tryz.isAgg0
 z0:=Tryz.sizeOf0
 v0:=Tryz.zeroValue0
 t3:=Tryz.underlying3
 a3:=Tryz.isAgg3
 z3:=Tryz.sizeOf3
 v3:=Tryz.zeroValue3
 t9:=Tryz.underlying9
 a9:=Tryz.isAgg9
 z9:=Tryz.sizeOf9
 v9:=Tryz.zeroValue9
 t37:=Tryz.underlying140
 a37:=Tryz.isAgg140
 z37:=Tryz.sizeOf140
 v37:=Tryz.zeroValue140
 t70:=Tryz.underlying139
 a70:=Tryz.isAgg139
 z70:=Tryz.sizeOf139
 v70:=Tryz.zeroValue139
 t72:=Tryz.underlying142
 a72:=Tryz.isAgg142
 z72:=Tryz.sizeOf142
 v72:=Tryz.zeroValue142
 t127:=Tryz.underlying208
 a127:=Tryz.isAgg208
 z127:=Tryz.sizeOf208
 v127:=Tryz.zeroValue208}
def Tryz.RY:Builder.Extra Tryz.prog Tryz.Uk:={
 sizeBuilder:=by kernel_rfl
 liesBuilder:=by kernel_rfl
 t5:=Tryz.underlying5
 a5:=Tryz.isAgg5
 z5:=Tryz.sizeOf5
 v5:=Tryz.zeroValue5
 infoByte:=by kernel_rfl
 cellsByte:=by kernel_rfl
 sizeByte:=by kernel_rfl
 neB5:=by decide}
open Go.RowKit in
def Tryz.Builder_String_any(B b:Nat)(l:List UInt8)(w:World)(h:Lib.IsBuilder 142 5 B b (Lib.byteCells l) w)(hBw:B<=w.heap.size):
 Calls Tryz.prog 94 #[.pointer (some ⟨b,0,none⟩)] w λe w'=>e= .returned (.string ⟨l.toArray⟩)/\Below B w w':=Any.Builder_String_any Tryz.zb Tryz.RY B b l w h hBw
def Tryz.Pf:Go.Shelf.Ren:=⟨λ|105=>185|167=>187|212=>247|99=>248|165=>249|166=>184|170=>250|169=>94|263=>274|264=>275|206=>276|240=>246|241=>277|276=>273|277=>289|n=>n,λ|9=>9|3=>3|4=>4|20=>20|0=>0|46=>254|109=>255|5=>5|72=>142|76=>203|51=>219|146=>269|53=>271|148=>272|70=>139|37=>140|75=>202|127=>208|164=>267|80=>144|n=>n,λ|n=>n⟩
def Tryz.aX:Go.Proofs.Lays.n105 Tryz.prog Tryz.Pf:={
 mixed:=by kernel_rfl
 f99:=Tryz.func248.trans (congrArg some (by kernel_rfl))
 f105:=Tryz.func185.trans (congrArg some (by kernel_rfl))
 f165:=Tryz.func249.trans (congrArg some (by kernel_rfl))
 f166:=Tryz.func184.trans (congrArg some (by kernel_rfl))
 f169:=Tryz.func94.trans (congrArg some (by kernel_rfl))
 f170:=Tryz.func250.trans (congrArg some (by kernel_rfl))
 f206:=Tryz.func276.trans (congrArg some (by kernel_rfl))
 f212:=Tryz.func247.trans (congrArg some (by kernel_rfl))
 f240:=Tryz.func246.trans (congrArg some (by kernel_rfl))
 f241:=Tryz.func277.trans (congrArg some (by kernel_rfl))
 f263:=Tryz.func274.trans (congrArg some (by kernel_rfl))
 f264:=Tryz.func275.trans (congrArg some (by kernel_rfl))
 f276:=Tryz.func273.trans (congrArg some (by kernel_rfl))
 f277:=Tryz.func289.trans (congrArg some (by kernel_rfl))
 t0:=Tryz.underlying0
 a0:=Tryz.isAgg0
 z0:=Tryz.sizeOf0
 v0:=Tryz.zeroValue0
 t3:=Tryz.underlying3
 a3:=Tryz.isAgg3
 z3:=Tryz.sizeOf3
 v3:=Tryz.zeroValue3
 t4:=Tryz.underlying4
 a4:=Tryz.isAgg4
 z4:=Tryz.sizeOf4
 v4:=Tryz.zeroValue4
 t5:=Tryz.underlying5
 a5:=Tryz.isAgg5
 z5:=Tryz.sizeOf5
 v5:=Tryz.zeroValue5
 t9:=Tryz.underlying9
 a9:=Tryz.isAgg9
 z9:=Tryz.sizeOf9
 v9:=Tryz.zeroValue9
 t20:=Tryz.underlying20
 a20:=Tryz.isAgg20
 z20:=Tryz.sizeOf20
 v20:=Tryz.zeroValue20
 t37:=Tryz.underlying140
 a37:=Tryz.isAgg140
 z37:=Tryz.sizeOf140
 v37:=Tryz.zeroValue140
 t46:=Tryz.underlying254
 a46:=Tryz.isAgg254
 z46:=Tryz.sizeOf254
 v46:=Tryz.zeroValue254
 t51:=Tryz.underlying219
 a51:=Tryz.isAgg219
 z51:=Tryz.sizeOf219
 v51:=Tryz.zeroValue219
 t53:=Tryz.underlying271
 a53:=Tryz.isAgg271
 z53:=Tryz.sizeOf271
 v53:=Tryz.zeroValue271
 t70:=Tryz.underlying139
 a70:=Tryz.isAgg139
 z70:=Tryz.sizeOf139
 v70:=Tryz.zeroValue139
 t72:=Tryz.underlying142
 a72:=Tryz.isAgg142
 z72:=Tryz.sizeOf142
 v72:=Tryz.zeroValue142
 t75:=Tryz.underlying202
 a75:=Tryz.isAgg202
 z75:=Tryz.sizeOf202
 v75:=Tryz.zeroValue202
 t76:=Tryz.underlying203
 a76:=Tryz.isAgg203
 z76:=Tryz.sizeOf203
 v76:=Tryz.zeroValue203
 t109:=Tryz.underlying255
 a109:=Tryz.isAgg255
 z109:=Tryz.sizeOf255
 v109:=Tryz.zeroValue255
 t127:=Tryz.underlying208
 a127:=Tryz.isAgg208
 z127:=Tryz.sizeOf208
 v127:=Tryz.zeroValue208
 t146:=Tryz.underlying269
 a146:=Tryz.isAgg269
 z146:=Tryz.sizeOf269
 v146:=Tryz.zeroValue269
 t148:=Tryz.underlying272
 a148:=Tryz.isAgg272
 z148:=Tryz.sizeOf272
 v148:=Tryz.zeroValue272
 t164:=Tryz.underlying267
 a164:=Tryz.isAgg267
 z164:=Tryz.sizeOf267
 v164:=Tryz.zeroValue267}
def Tryz.JK:Builder.Extra Tryz.prog Tryz.Pf:={
 sizeBuilder:=by kernel_rfl
 liesBuilder:=by kernel_rfl
 t5:=Tryz.underlying5
 a5:=Tryz.isAgg5
 z5:=Tryz.sizeOf5
 v5:=Tryz.zeroValue5
 infoByte:=by kernel_rfl
 cellsByte:=by kernel_rfl
 sizeByte:=by kernel_rfl
 neB5:=by decide}
open Go.RowKit Go.Lib in
def Tryz.strings_Repeat(s:ByteArray)(c:Nat)(w:World)(hc:c<=9223372036854775807)(hlen:s.size*c<=140737488355328):
 Calls Tryz.prog 185 #[.string s,.int .i64 c] w λe w'=>e= .returned (.string ⟨(Lib.repeatL s.data.toList c).toArray⟩)/\Below w.heap.size w w':=Any.strings_Repeat Tryz.aX Tryz.JK s c w hc hlen
def Tryz.Yp:Go.Shelf.Ren:=⟨λ|21=>146|27=>231|28=>232|35=>271|39=>288|n=>n,λ|22=>71|3=>3|4=>4|0=>0|n=>n,λ|n=>n⟩
def Tryz.Nd:Go.Proofs.Lays2.n21 Tryz.prog Tryz.Yp:={
 mixed:=by kernel_rfl
 f21:=Tryz.func146.trans (congrArg some (by kernel_rfl))
 f27:=Tryz.func231.trans (congrArg some (by kernel_rfl))
 f28:=Tryz.func232.trans (congrArg some (by kernel_rfl))
 f35:=Tryz.func271.trans (congrArg some (by kernel_rfl))
 f39:=Tryz.func288.trans (congrArg some (by kernel_rfl))
 t0:=Tryz.underlying0
 a0:=Tryz.isAgg0
 z0:=Tryz.sizeOf0
 v0:=Tryz.zeroValue0
 t3:=Tryz.underlying3
 a3:=Tryz.isAgg3
 z3:=Tryz.sizeOf3
 v3:=Tryz.zeroValue3
 t4:=Tryz.underlying4
 a4:=Tryz.isAgg4
 z4:=Tryz.sizeOf4
 v4:=Tryz.zeroValue4
 t22:=Tryz.underlying71
 a22:=Tryz.isAgg71
 z22:=Tryz.sizeOf71
 v22:=Tryz.zeroValue71
 i3:=by kernel_rfl}
def Tryz.zc:Go.Proofs.Lays.n167 Tryz.prog Tryz.Pf:={Tryz.aX with
 f167:=Tryz.func187.trans (congrArg some (by kernel_rfl))}
open Go.RowKit in
def Tryz.Builder_WriteByte(B b:Nat)(bs:List Value)(c:Int)(w:World)(h:Lib.IsBuilder 142 5 B b bs w)(hlen:bs.length+1<=140737488355328)(hBw:B<=w.heap.size):
 Calls Tryz.prog 187 #[.pointer (some ⟨b,0,none⟩),.int .u8 c] w λe w'=>e= .returned .nilIface/\(Lib.BuilderAt 142 5 B b (.pointer (some ⟨b,0,none⟩)) (bs++[.int .u8 c]) w'/\Below B w w'):=Any.Builder_WriteByte Tryz.zc Tryz.JK B b bs c w h hlen hBw
open Go.RowKit in
def Tryz.Builder_WriteString(B b:Nat)(bs:List Value)(s:ByteArray)(w:World)(h:Lib.IsBuilder 142 5 B b bs w)(hlen:bs.length+s.size<=140737488355328)(hBw:B<=w.heap.size):
 Calls Tryz.prog 184 #[.pointer (some ⟨b,0,none⟩),.string s] w λe w'=>e= .returned (.tuple #[.int .i64 s.size,.nilIface])/\(Lib.BuilderAt 142 5 B b (.pointer (some ⟨b,0,none⟩)) (bs++Lib.strCells s) w'/\Below B w w'):=Any.Builder_WriteString {Tryz.aX with} Tryz.JK B b bs s w h hlen hBw
end Go.Proofs
