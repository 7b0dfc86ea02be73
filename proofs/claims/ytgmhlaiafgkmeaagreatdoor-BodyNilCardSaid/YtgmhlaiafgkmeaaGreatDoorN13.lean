/- Lemmas -/
import Derived.Shelf.Strings.Repeat
import Derived.Shelf.Spec.SlicesInsertGrow
import Derived.Test.YtgmhlaiafgkmeaaGreatDoorProg
set_option linter.all false
namespace Go.Proofs
open Go.Shelf
def Tryz.KN:Go.Shelf.Ren:=⟨λ|169=>181|n=>n,λ|70=>195|9=>9|0=>0|72=>197|37=>116|127=>247|3=>3|5=>5|n=>n,λ|n=>n⟩
def Tryz.V0:Go.Proofs.Lays.n169 Tryz.prog Tryz.KN:={
 mixed:=by kernel_rfl
 f169:=Tryz.func181.trans (congrArg some (by kernel_rfl))
 t0:=Tryz.underlying0
 a0:=Tryz.isAgg0
 z0:=Tryz.sizeOf0
 v0:=Tryz.zeroValue0
 t3:=Tryz.underlying3
 a3:=Tryz.isAgg3
 z3:=Tryz.sizeOf3
 v3:=Tryz.zeroValue3
 t9:=Tryz.underlying9
 a9:=Tryz.isAgg9
 z9:=Tryz.sizeOf9
 v9:=Tryz.zeroValue9
 t37:=Tryz.underlying116
 a37:=Tryz.isAgg116
 z37:=Tryz.sizeOf116
 v37:=Tryz.zeroValue116
 t70:=Tryz.underlying195
 a70:=Tryz.isAgg195
 z70:=Tryz.sizeOf195
 v70:=Tryz.zeroValue195
 t72:=Tryz.underlying197
 a72:=Tryz.isAgg197
 z72:=Tryz.sizeOf197
 v72:=Tryz.zeroValue197
 t127:=Tryz.underlying247
 a127:=Tryz.isAgg247
 z127:=Tryz.sizeOf247
 v127:=Tryz.zeroValue247}
def Tryz.JA:Builder.Extra Tryz.prog Tryz.KN:={
 sizeBuilder:=by kernel_rfl
 liesBuilder:=by kernel_rfl
 t5:=Tryz.underlying5
 a5:=Tryz.isAgg5
 z5:=Tryz.sizeOf5
 v5:=Tryz.zeroValue5
 infoByte:=by kernel_rfl
 cellsByte:=by kernel_rfl
 sizeByte:=by kernel_rfl
 neB5:=by decide}
open Go.RowKit in
def Tryz.Builder_String_any(B b:Nat)(l:List UInt8)(w:World)(h:Lib.IsBuilder 197 5 B b (Lib.byteCells l) w)(hBw:B<=w.heap.size):
 Calls Tryz.prog 181 #[.pointer (some ⟨b,0,none⟩)] w λe w'=>e= .returned (.string ⟨l.toArray⟩)/\Below B w w':=Any.Builder_String_any Tryz.V0 Tryz.JA B b l w h hBw
def Tryz.HJ:Go.Shelf.Ren:=⟨λ|105=>247|167=>249|212=>290|99=>291|165=>292|166=>246|170=>293|169=>181|263=>313|264=>314|206=>315|240=>289|241=>316|276=>312|277=>327|n=>n,λ|9=>9|3=>3|4=>4|20=>20|0=>0|46=>284|109=>285|5=>5|72=>197|76=>242|51=>257|146=>298|53=>300|148=>301|70=>195|37=>116|75=>241|127=>247|164=>296|80=>199|n=>n,λ|n=>n⟩
def Tryz.NS:Go.Proofs.Lays.n105 Tryz.prog Tryz.HJ:={
 mixed:=by kernel_rfl
 f99:=Tryz.func291.trans (congrArg some (by kernel_rfl))
 f105:=Tryz.func247.trans (congrArg some (by kernel_rfl))
 f165:=Tryz.func292.trans (congrArg some (by kernel_rfl))
 f166:=Tryz.func246.trans (congrArg some (by kernel_rfl))
 f169:=Tryz.func181.trans (congrArg some (by kernel_rfl))
 f170:=Tryz.func293.trans (congrArg some (by kernel_rfl))
 f206:=Tryz.func315.trans (congrArg some (by kernel_rfl))
 f212:=Tryz.func290.trans (congrArg some (by kernel_rfl))
 f240:=Tryz.func289.trans (congrArg some (by kernel_rfl))
 f241:=Tryz.func316.trans (congrArg some (by kernel_rfl))
 f263:=Tryz.func313.trans (congrArg some (by kernel_rfl))
 f264:=Tryz.func314.trans (congrArg some (by kernel_rfl))
 f276:=Tryz.func312.trans (congrArg some (by kernel_rfl))
 f277:=Tryz.func327.trans (congrArg some (by kernel_rfl))
 t0:=Tryz.underlying0
 a0:=Tryz.isAgg0
 z0:=Tryz.sizeOf0
 v0:=Tryz.zeroValue0
 t3:=Tryz.underlying3
 a3:=Tryz.isAgg3
 z3:=Tryz.sizeOf3
 v3:=Tryz.zeroValue3
 t4:=Tryz.underlying4
 a4:=Tryz.isAgg4
 z4:=Tryz.sizeOf4
 v4:=Tryz.zeroValue4
 t5:=Tryz.underlying5
 a5:=Tryz.isAgg5
 z5:=Tryz.sizeOf5
 v5:=Tryz.zeroValue5
 t9:=Tryz.underlying9
 a9:=Tryz.isAgg9
 z9:=Tryz.sizeOf9
 v9:=Tryz.zeroValue9
 t20:=Tryz.underlying20
 a20:=Tryz.isAgg20
 z20:=Tryz.sizeOf20
 v20:=Tryz.zeroValue20
 t37:=Tryz.underlying116
 a37:=Tryz.isAgg116
 z37:=Tryz.sizeOf116
 v37:=Tryz.zeroValue116
 t46:=Tryz.underlying284
 a46:=Tryz.isAgg284
 z46:=Tryz.sizeOf284
 v46:=Tryz.zeroValue284
 t51:=Tryz.underlying257
 a51:=Tryz.isAgg257
 z51:=Tryz.sizeOf257
 v51:=Tryz.zeroValue257
 t53:=Tryz.underlying300
 a53:=Tryz.isAgg300
 z53:=Tryz.sizeOf300
 v53:=Tryz.zeroValue300
 t70:=Tryz.underlying195
 a70:=Tryz.isAgg195
 z70:=Tryz.sizeOf195
 v70:=Tryz.zeroValue195
 t72:=Tryz.underlying197
 a72:=Tryz.isAgg197
 z72:=Tryz.sizeOf197
 v72:=Tryz.zeroValue197
 t75:=Tryz.underlying241
 a75:=Tryz.isAgg241
 z75:=Tryz.sizeOf241
 v75:=Tryz.zeroValue241
 t76:=Tryz.underlying242
 a76:=Tryz.isAgg242
 z76:=Tryz.sizeOf242
 v76:=Tryz.zeroValue242
 t109:=Tryz.underlying285
 a109:=Tryz.isAgg285
 z109:=Tryz.sizeOf285
 v109:=Tryz.zeroValue285
 t127:=Tryz.underlying247
 a127:=Tryz.isAgg247
 z127:=Tryz.sizeOf247
 v127:=Tryz.zeroValue247
 t146:=Tryz.underlying298
 a146:=Tryz.isAgg298
 z146:=Tryz.sizeOf298
 v146:=Tryz.zeroValue298
 t148:=Tryz.underlying301
 a148:=Tryz.isAgg301
 z148:=Tryz.sizeOf301
 v148:=Tryz.zeroValue301
 t164:=Tryz.underlying296
 a164:=Tryz.isAgg296
 z164:=Tryz.sizeOf296
 v164:=Tryz.zeroValue296}
def Tryz.EC:Builder.Extra Tryz.prog Tryz.HJ:={
 sizeBuilder:=by kernel_rfl
 liesBuilder:=by kernel_rfl
 t5:=Tryz.underlying5
 a5:=Tryz.isAgg5
 z5:=Tryz.sizeOf5
 v5:=Tryz.zeroValue5
 infoByte:=by kernel_rfl
 cellsByte:=by kernel_rfl
 sizeByte:=by kernel_rfl
 neB5:=by decide}
open Go.RowKit Go.Lib in
def Tryz.strings_Repeat(s:ByteArray)(c:Nat)(w:World)(hc:c<=9223372036854775807)(hlen:s.size*c<=140737488355328):
 Calls Tryz.prog 247 #[.string s,.int .i64 c] w λe w'=>e= .returned (.string ⟨(Lib.repeatL s.data.toList c).toArray⟩)/\Below w.heap.size w w':=Any.strings_Repeat Tryz.NS Tryz.EC s c w hc hlen
def Tryz.Mz:Go.Shelf.Ren:=⟨λ|21=>189|27=>254|28=>255|35=>299|39=>320|n=>n,λ|22=>34|3=>3|4=>4|0=>0|n=>n,λ|n=>n⟩
def Tryz.GB:Go.Proofs.Lays2.n21 Tryz.prog Tryz.Mz:={
 mixed:=by kernel_rfl
 f21:=Tryz.func189.trans (congrArg some (by kernel_rfl))
 f27:=Tryz.func254.trans (congrArg some (by kernel_rfl))
 f28:=Tryz.func255.trans (congrArg some (by kernel_rfl))
 f35:=Tryz.func299.trans (congrArg some (by kernel_rfl))
 f39:=Tryz.func320.trans (congrArg some (by kernel_rfl))
 t0:=Tryz.underlying0
 a0:=Tryz.isAgg0
 z0:=Tryz.sizeOf0
 v0:=Tryz.zeroValue0
 t3:=Tryz.underlying3
 a3:=Tryz.isAgg3
 z3:=Tryz.sizeOf3
 v3:=Tryz.zeroValue3
 t4:=Tryz.underlying4
 a4:=Tryz.isAgg4
 z4:=Tryz.sizeOf4
 v4:=Tryz.zeroValue4
 t22:=Tryz.underlying34
 a22:=Tryz.isAgg34
 z22:=Tryz.sizeOf34
 v22:=Tryz.zeroValue34
 i3:=by kernel_rfl}
def Tryz.V1:Go.Proofs.Lays.n167 Tryz.prog Tryz.HJ:={Tryz.NS with
 f167:=Tryz.func249.trans (congrArg some (by kernel_rfl))}
open Go.RowKit in
def Tryz.Builder_WriteByte(B b:Nat)(bs:List Value)(c:Int)(w:World)(h:Lib.IsBuilder 197 5 B b bs w)(hlen:bs.length+1<=140737488355328)(hBw:B<=w.heap.size):
 Calls Tryz.prog 249 #[.pointer (some ⟨b,0,none⟩),.int .u8 c] w λe w'=>e= .returned .nilIface/\(Lib.BuilderAt 197 5 B b (.pointer (some ⟨b,0,none⟩)) (bs++[.int .u8 c]) w'/\Below B w w'):=Any.Builder_WriteByte Tryz.V1 Tryz.EC B b bs c w h hlen hBw
open Go.RowKit in
def Tryz.Builder_WriteString(B b:Nat)(bs:List Value)(s:ByteArray)(w:World)(h:Lib.IsBuilder 197 5 B b bs w)(hlen:bs.length+s.size<=140737488355328)(hBw:B<=w.heap.size):
 Calls Tryz.prog 246 #[.pointer (some ⟨b,0,none⟩),.string s] w λe w'=>e= .returned (.tuple #[.int .i64 s.size,.nilIface])/\(Lib.BuilderAt 197 5 B b (.pointer (some ⟨b,0,none⟩)) (bs++Lib.strCells s) w'/\Below B w w'):=Any.Builder_WriteString {Tryz.NS with} Tryz.EC B b bs s w h hlen hBw
end Go.Proofs
