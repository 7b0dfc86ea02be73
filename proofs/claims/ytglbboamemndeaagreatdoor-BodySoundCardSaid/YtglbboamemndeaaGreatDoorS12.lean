/- Lemmas -/
import Derived.Shelf.Strings.Repeat
import Derived.Shelf.Spec.SlicesInsertGrow
import Derived.Test.YtglbboamemndeaaGreatDoorProg
set_option linter.all false
namespace Go.Proofs
open Go.Shelf
def Tryz.Uh:Go.Shelf.Ren:=⟨λ|169=>100|n=>n,λ|70=>142|9=>9|0=>0|72=>145|37=>143|127=>207|3=>3|5=>5|n=>n,λ|n=>n⟩
def Tryz.yb:Go.Proofs.Lays.n169 Tryz.prog Tryz.Uh:={
 mixed:=by kernel_rfl
 f169:=Tryz.func100.trans (congrArg some (by kernel_rfl))
 t0:=Tryz.underlying0
 a0:=Tryz.isAgg0
 z0:=Tryz.sizeOf0
 v0:=Tryz.zeroValue0
 t3:=Tryz.underlying3
 a3:=Tryz.isAgg3
 z3:=Tryz.sizeOf3
 v3:=Tryz.zeroValue3
 t9:=Tryz.underlying9
 a9:=Tryz.isAgg9
 z9:=Tryz.sizeOf9
 v9:=Tryz.zeroValue9
 t37:=Tryz.underlying143
 a37:=Tryz.isAgg143
 z37:=Tryz.sizeOf143
 v37:=Tryz.zeroValue143
 t70:=Tryz.underlying142
 a70:=Tryz.isAgg142
 z70:=Tryz.sizeOf142
 v70:=Tryz.zeroValue142
 t72:=Tryz.underlying145
 a72:=Tryz.isAgg145
 z72:=Tryz.sizeOf145
 v72:=Tryz.zeroValue145
 t127:=Tryz.underlying207
 a127:=Tryz.isAgg207
 z127:=Tryz.sizeOf207
 v127:=Tryz.zeroValue207}
def Tryz.RZ:Builder.Extra Tryz.prog Tryz.Uh:={
 sizeBuilder:=by kernel_rfl
 liesBuilder:=by kernel_rfl
 t5:=Tryz.underlying5
 a5:=Tryz.isAgg5
 z5:=Tryz.sizeOf5
 v5:=Tryz.zeroValue5
 infoByte:=by kernel_rfl
 cellsByte:=by kernel_rfl
 sizeByte:=by kernel_rfl
 neB5:=by decide}
open Go.RowKit in
def Tryz.Builder_String_any(B b:Nat)(l:List UInt8)(w:World)(h:Lib.IsBuilder 145 5 B b (Lib.byteCells l) w)(hBw:B<=w.heap.size):
 Calls Tryz.prog 100 #[.pointer (some ⟨b,0,none⟩)] w λe w'=>e= .returned (.string ⟨l.toArray⟩)/\Below B w w':=Any.Builder_String_any Tryz.yb Tryz.RZ B b l w h hBw
def Tryz.Pm:Go.Shelf.Ren:=⟨λ|105=>189|167=>191|212=>250|99=>251|165=>252|166=>188|170=>253|169=>100|263=>276|264=>277|206=>278|240=>249|241=>279|276=>275|277=>291|n=>n,λ|9=>9|3=>3|4=>4|20=>20|0=>0|46=>254|109=>255|5=>5|72=>145|76=>201|51=>217|146=>269|53=>271|148=>272|70=>142|37=>143|75=>200|127=>207|164=>267|80=>147|n=>n,λ|n=>n⟩
def Tryz.bP:Go.Proofs.Lays.n105 Tryz.prog Tryz.Pm:={
 mixed:=by kernel_rfl
 f99:=Tryz.func251.trans (congrArg some (by kernel_rfl))
 f105:=Tryz.func189.trans (congrArg some (by kernel_rfl))
 f165:=Tryz.func252.trans (congrArg some (by kernel_rfl))
 f166:=Tryz.func188.trans (congrArg some (by kernel_rfl))
 f169:=Tryz.func100.trans (congrArg some (by kernel_rfl))
 f170:=Tryz.func253.trans (congrArg some (by kernel_rfl))
 f206:=Tryz.func278.trans (congrArg some (by kernel_rfl))
 f212:=Tryz.func250.trans (congrArg some (by kernel_rfl))
 f240:=Tryz.func249.trans (congrArg some (by kernel_rfl))
 f241:=Tryz.func279.trans (congrArg some (by kernel_rfl))
 f263:=Tryz.func276.trans (congrArg some (by kernel_rfl))
 f264:=Tryz.func277.trans (congrArg some (by kernel_rfl))
 f276:=Tryz.func275.trans (congrArg some (by kernel_rfl))
 f277:=Tryz.func291.trans (congrArg some (by kernel_rfl))
 t0:=Tryz.underlying0
 a0:=Tryz.isAgg0
 z0:=Tryz.sizeOf0
 v0:=Tryz.zeroValue0
 t3:=Tryz.underlying3
 a3:=Tryz.isAgg3
 z3:=Tryz.sizeOf3
 v3:=Tryz.zeroValue3
 t4:=Tryz.underlying4
 a4:=Tryz.isAgg4
 z4:=Tryz.sizeOf4
 v4:=Tryz.zeroValue4
 t5:=Tryz.underlying5
 a5:=Tryz.isAgg5
 z5:=Tryz.sizeOf5
 v5:=Tryz.zeroValue5
 t9:=Tryz.underlying9
 a9:=Tryz.isAgg9
 z9:=Tryz.sizeOf9
 v9:=Tryz.zeroValue9
 t20:=Tryz.underlying20
 a20:=Tryz.isAgg20
 z20:=Tryz.sizeOf20
 v20:=Tryz.zeroValue20
 t37:=Tryz.underlying143
 a37:=Tryz.isAgg143
 z37:=Tryz.sizeOf143
 v37:=Tryz.zeroValue143
 t46:=Tryz.underlying254
 a46:=Tryz.isAgg254
 z46:=Tryz.sizeOf254
 v46:=Tryz.zeroValue254
 t51:=Tryz.underlying217
 a51:=Tryz.isAgg217
 z51:=Tryz.sizeOf217
 v51:=Tryz.zeroValue217
 t53:=Tryz.underlying271
 a53:=Tryz.isAgg271
 z53:=Tryz.sizeOf271
 v53:=Tryz.zeroValue271
 t70:=Tryz.underlying142
 a70:=Tryz.isAgg142
 z70:=Tryz.sizeOf142
 v70:=Tryz.zeroValue142
 t72:=Tryz.underlying145
 a72:=Tryz.isAgg145
 z72:=Tryz.sizeOf145
 v72:=Tryz.zeroValue145
 t75:=Tryz.underlying200
 a75:=Tryz.isAgg200
 z75:=Tryz.sizeOf200
 v75:=Tryz.zeroValue200
 t76:=Tryz.underlying201
 a76:=Tryz.isAgg201
 z76:=Tryz.sizeOf201
 v76:=Tryz.zeroValue201
 t109:=Tryz.underlying255
 a109:=Tryz.isAgg255
 z109:=Tryz.sizeOf255
 v109:=Tryz.zeroValue255
 t127:=Tryz.underlying207
 a127:=Tryz.isAgg207
 z127:=Tryz.sizeOf207
 v127:=Tryz.zeroValue207
 t146:=Tryz.underlying269
 a146:=Tryz.isAgg269
 z146:=Tryz.sizeOf269
 v146:=Tryz.zeroValue269
 t148:=Tryz.underlying272
 a148:=Tryz.isAgg272
 z148:=Tryz.sizeOf272
 v148:=Tryz.zeroValue272
 t164:=Tryz.underlying267
 a164:=Tryz.isAgg267
 z164:=Tryz.sizeOf267
 v164:=Tryz.zeroValue267}
def Tryz.JK:Builder.Extra Tryz.prog Tryz.Pm:={
 sizeBuilder:=by kernel_rfl
 liesBuilder:=by kernel_rfl
 t5:=Tryz.underlying5
 a5:=Tryz.isAgg5
 z5:=Tryz.sizeOf5
 v5:=Tryz.zeroValue5
 infoByte:=by kernel_rfl
 cellsByte:=by kernel_rfl
 sizeByte:=by kernel_rfl
 neB5:=by decide}
open Go.RowKit Go.Lib in
def Tryz.strings_Repeat(s:ByteArray)(c:Nat)(w:World)(hc:c<=9223372036854775807)(hlen:s.size*c<=140737488355328):
 Calls Tryz.prog 189 #[.string s,.int .i64 c] w λe w'=>e= .returned (.string ⟨(Lib.repeatL s.data.toList c).toArray⟩)/\Below w.heap.size w w':=Any.strings_Repeat Tryz.bP Tryz.JK s c w hc hlen
def Tryz.YN:Go.Shelf.Ren:=⟨λ|21=>151|27=>234|28=>235|35=>273|39=>290|n=>n,λ|22=>77|3=>3|4=>4|0=>0|n=>n,λ|n=>n⟩
def Tryz.Np:Go.Proofs.Lays2.n21 Tryz.prog Tryz.YN:={
 mixed:=by kernel_rfl
 f21:=Tryz.func151.trans (congrArg some (by kernel_rfl))
 f27:=Tryz.func234.trans (congrArg some (by kernel_rfl))
 f28:=Tryz.func235.trans (congrArg some (by kernel_rfl))
 f35:=Tryz.func273.trans (congrArg some (by kernel_rfl))
 f39:=Tryz.func290.trans (congrArg some (by kernel_rfl))
 t0:=Tryz.underlying0
 a0:=Tryz.isAgg0
 z0:=Tryz.sizeOf0
 v0:=Tryz.zeroValue0
 t3:=Tryz.underlying3
 a3:=Tryz.isAgg3
 z3:=Tryz.sizeOf3
 v3:=Tryz.zeroValue3
 t4:=Tryz.underlying4
 a4:=Tryz.isAgg4
 z4:=Tryz.sizeOf4
 v4:=Tryz.zeroValue4
 t22:=Tryz.underlying77
 a22:=Tryz.isAgg77
 z22:=Tryz.sizeOf77
 v22:=Tryz.zeroValue77
 i3:=by kernel_rfl}
def Tryz.yc:Go.Proofs.Lays.n167 Tryz.prog Tryz.Pm:={Tryz.bP with
 f167:=Tryz.func191.trans (congrArg some (by kernel_rfl))}
open Go.RowKit in
def Tryz.Builder_WriteByte(B b:Nat)(bs:List Value)(c:Int)(w:World)(h:Lib.IsBuilder 145 5 B b bs w)(hlen:bs.length+1<=140737488355328)(hBw:B<=w.heap.size):
 Calls Tryz.prog 191 #[.pointer (some ⟨b,0,none⟩),.int .u8 c] w λe w'=>e= .returned .nilIface/\(Lib.BuilderAt 145 5 B b (.pointer (some ⟨b,0,none⟩)) (bs++[.int .u8 c]) w'/\Below B w w'):=Any.Builder_WriteByte Tryz.yc Tryz.JK B b bs c w h hlen hBw
open Go.RowKit in
def Tryz.Builder_WriteString(B b:Nat)(bs:List Value)(s:ByteArray)(w:World)(h:Lib.IsBuilder 145 5 B b bs w)(hlen:bs.length+s.size<=140737488355328)(hBw:B<=w.heap.size):
 Calls Tryz.prog 188 #[.pointer (some ⟨b,0,none⟩),.string s] w λe w'=>e= .returned (.tuple #[.int .i64 s.size,.nilIface])/\(Lib.BuilderAt 145 5 B b (.pointer (some ⟨b,0,none⟩)) (bs++Lib.strCells s) w'/\Below B w w'):=Any.Builder_WriteString {Tryz.bP with} Tryz.JK B b bs s w h hlen hBw
end Go.Proofs
