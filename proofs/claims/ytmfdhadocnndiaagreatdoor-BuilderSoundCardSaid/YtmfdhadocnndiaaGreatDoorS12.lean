/- Lemmas -/
import Derived.Shelf.Strings.Repeat
import Derived.Shelf.Spec.SlicesInsertGrow
import Derived.Test.YtmfdhadocnndiaaGreatDoorProg
set_option linter.all false
namespace Go.Proofs
open Go.Shelf
def Tryz.Rz:Go.Shelf.Ren:=⟨λ|169=>74|n=>n,λ|70=>126|9=>9|0=>0|72=>128|37=>116|127=>191|3=>3|5=>5|n=>n,λ|n=>n⟩
def Tryz.af:Go.Proofs.Lays.n169 Tryz.prog Tryz.Rz:={
 mixed:=by kernel_rfl
 f169:=Tryz.func74.trans (congrArg some (by kernel_rfl))
 t0:=Tryz.underlying0
 a0:=Tryz.isAgg0
 z0:=Tryz.sizeOf0
 v0:=Tryz.zeroValue0
 t3:=Tryz.underlying3
 a3:=Tryz.isAgg3
 z3:=Tryz.sizeOf3
 v3:=Tryz.zeroValue3
 t9:=Tryz.underlying9
 a9:=Tryz.isAgg9
 z9:=Tryz.sizeOf9
 v9:=Tryz.zeroValue9
 t37:=Tryz.underlying116
 a37:=Tryz.isAgg116
 z37:=Tryz.sizeOf116
 v37:=Tryz.zeroValue116
 t70:=Tryz.underlying126
 a70:=Tryz.isAgg126
 z70:=Tryz.sizeOf126
 v70:=Tryz.zeroValue126
 t72:=Tryz.underlying128
 a72:=Tryz.isAgg128
 z72:=Tryz.sizeOf128
 v72:=Tryz.zeroValue128
 t127:=Tryz.underlying191
 a127:=Tryz.isAgg191
 z127:=Tryz.sizeOf191
 v127:=Tryz.zeroValue191}
def Tryz.PE:Builder.Extra Tryz.prog Tryz.Rz:={
 sizeBuilder:=by kernel_rfl
 liesBuilder:=by kernel_rfl
 t5:=Tryz.underlying5
 a5:=Tryz.isAgg5
 z5:=Tryz.sizeOf5
 v5:=Tryz.zeroValue5
 infoByte:=by kernel_rfl
 cellsByte:=by kernel_rfl
 sizeByte:=by kernel_rfl
 neB5:=by decide}
open Go.RowKit in
def Tryz.Builder_String_any(B b:Nat)(l:List UInt8)(w:World)(h:Lib.IsBuilder 128 5 B b (Lib.byteCells l) w)(hBw:B<=w.heap.size):
 Calls Tryz.prog 74 #[.pointer (some ⟨b,0,none⟩)] w λe w'=>e= .returned (.string ⟨l.toArray⟩)/\Below B w w':=Any.Builder_String_any Tryz.af Tryz.PE B b l w h hBw
def Tryz.Nj:Go.Shelf.Ren:=⟨λ|105=>134|167=>136|212=>175|99=>176|165=>177|166=>133|170=>178|169=>74|263=>192|264=>193|206=>194|240=>174|241=>195|276=>191|277=>207|n=>n,λ|9=>9|3=>3|4=>4|20=>20|0=>0|46=>209|109=>218|5=>5|72=>128|76=>186|51=>169|146=>232|53=>234|148=>235|70=>126|37=>116|75=>185|127=>191|164=>230|80=>130|n=>n,λ|n=>n⟩
def Tryz.WZ:Go.Proofs.Lays.n105 Tryz.prog Tryz.Nj:={
 mixed:=by kernel_rfl
 f99:=Tryz.func176.trans (congrArg some (by kernel_rfl))
 f105:=Tryz.func134.trans (congrArg some (by kernel_rfl))
 f165:=Tryz.func177.trans (congrArg some (by kernel_rfl))
 f166:=Tryz.func133.trans (congrArg some (by kernel_rfl))
 f169:=Tryz.func74.trans (congrArg some (by kernel_rfl))
 f170:=Tryz.func178.trans (congrArg some (by kernel_rfl))
 f206:=Tryz.func194.trans (congrArg some (by kernel_rfl))
 f212:=Tryz.func175.trans (congrArg some (by kernel_rfl))
 f240:=Tryz.func174.trans (congrArg some (by kernel_rfl))
 f241:=Tryz.func195.trans (congrArg some (by kernel_rfl))
 f263:=Tryz.func192.trans (congrArg some (by kernel_rfl))
 f264:=Tryz.func193.trans (congrArg some (by kernel_rfl))
 f276:=Tryz.func191.trans (congrArg some (by kernel_rfl))
 f277:=Tryz.func207.trans (congrArg some (by kernel_rfl))
 t0:=Tryz.underlying0
 a0:=Tryz.isAgg0
 z0:=Tryz.sizeOf0
 v0:=Tryz.zeroValue0
 t3:=Tryz.underlying3
 a3:=Tryz.isAgg3
 z3:=Tryz.sizeOf3
 v3:=Tryz.zeroValue3
 t4:=Tryz.underlying4
 a4:=Tryz.isAgg4
 z4:=Tryz.sizeOf4
 v4:=Tryz.zeroValue4
 t5:=Tryz.underlying5
 a5:=Tryz.isAgg5
 z5:=Tryz.sizeOf5
 v5:=Tryz.zeroValue5
 t9:=Tryz.underlying9
 a9:=Tryz.isAgg9
 z9:=Tryz.sizeOf9
 v9:=Tryz.zeroValue9
 t20:=Tryz.underlying20
 a20:=Tryz.isAgg20
 z20:=Tryz.sizeOf20
 v20:=Tryz.zeroValue20
 t37:=Tryz.underlying116
 a37:=Tryz.isAgg116
 z37:=Tryz.sizeOf116
 v37:=Tryz.zeroValue116
 t46:=Tryz.underlying209
 a46:=Tryz.isAgg209
 z46:=Tryz.sizeOf209
 v46:=Tryz.zeroValue209
 t51:=Tryz.underlying169
 a51:=Tryz.isAgg169
 z51:=Tryz.sizeOf169
 v51:=Tryz.zeroValue169
 t53:=Tryz.underlying234
 a53:=Tryz.isAgg234
 z53:=Tryz.sizeOf234
 v53:=Tryz.zeroValue234
 t70:=Tryz.underlying126
 a70:=Tryz.isAgg126
 z70:=Tryz.sizeOf126
 v70:=Tryz.zeroValue126
 t72:=Tryz.underlying128
 a72:=Tryz.isAgg128
 z72:=Tryz.sizeOf128
 v72:=Tryz.zeroValue128
 t75:=Tryz.underlying185
 a75:=Tryz.isAgg185
 z75:=Tryz.sizeOf185
 v75:=Tryz.zeroValue185
 t76:=Tryz.underlying186
 a76:=Tryz.isAgg186
 z76:=Tryz.sizeOf186
 v76:=Tryz.zeroValue186
 t109:=Tryz.underlying218
 a109:=Tryz.isAgg218
 z109:=Tryz.sizeOf218
 v109:=Tryz.zeroValue218
 t127:=Tryz.underlying191
 a127:=Tryz.isAgg191
 z127:=Tryz.sizeOf191
 v127:=Tryz.zeroValue191
 t146:=Tryz.underlying232
 a146:=Tryz.isAgg232
 z146:=Tryz.sizeOf232
 v146:=Tryz.zeroValue232
 t148:=Tryz.underlying235
 a148:=Tryz.isAgg235
 z148:=Tryz.sizeOf235
 v148:=Tryz.zeroValue235
 t164:=Tryz.underlying230
 a164:=Tryz.isAgg230
 z164:=Tryz.sizeOf230
 v164:=Tryz.zeroValue230}
def Tryz.IE:Builder.Extra Tryz.prog Tryz.Nj:={
 sizeBuilder:=by kernel_rfl
 liesBuilder:=by kernel_rfl
 t5:=Tryz.underlying5
 a5:=Tryz.isAgg5
 z5:=Tryz.sizeOf5
 v5:=Tryz.zeroValue5
 infoByte:=by kernel_rfl
 cellsByte:=by kernel_rfl
 sizeByte:=by kernel_rfl
 neB5:=by decide}
open Go.RowKit Go.Lib in
def Tryz.strings_Repeat(s:ByteArray)(c:Nat)(w:World)(hc:c<=9223372036854775807)(hlen:s.size*c<=140737488355328):
 Calls Tryz.prog 134 #[.string s,.int .i64 c] w λe w'=>e= .returned (.string ⟨(Lib.repeatL s.data.toList c).toArray⟩)/\Below w.heap.size w w':=Any.strings_Repeat Tryz.WZ Tryz.IE s c w hc hlen
def Tryz.UQ:Go.Shelf.Ren:=⟨λ|21=>167|27=>188|28=>189|35=>206|39=>213|n=>n,λ|22=>56|3=>3|4=>4|0=>0|n=>n,λ|n=>n⟩
def Tryz.LN:Go.Proofs.Lays2.n21 Tryz.prog Tryz.UQ:={
 mixed:=by kernel_rfl
 f21:=Tryz.func167.trans (congrArg some (by kernel_rfl))
 f27:=Tryz.func188.trans (congrArg some (by kernel_rfl))
 f28:=Tryz.func189.trans (congrArg some (by kernel_rfl))
 f35:=Tryz.func206.trans (congrArg some (by kernel_rfl))
 f39:=Tryz.func213.trans (congrArg some (by kernel_rfl))
 t0:=Tryz.underlying0
 a0:=Tryz.isAgg0
 z0:=Tryz.sizeOf0
 v0:=Tryz.zeroValue0
 t3:=Tryz.underlying3
 a3:=Tryz.isAgg3
 z3:=Tryz.sizeOf3
 v3:=Tryz.zeroValue3
 t4:=Tryz.underlying4
 a4:=Tryz.isAgg4
 z4:=Tryz.sizeOf4
 v4:=Tryz.zeroValue4
 t22:=Tryz.underlying56
 a22:=Tryz.isAgg56
 z22:=Tryz.sizeOf56
 v22:=Tryz.zeroValue56
 i3:=by kernel_rfl}
def Tryz.ag:Go.Proofs.Lays.n167 Tryz.prog Tryz.Nj:={Tryz.WZ with
 f167:=Tryz.func136.trans (congrArg some (by kernel_rfl))}
open Go.RowKit in
def Tryz.Builder_WriteByte(B b:Nat)(bs:List Value)(c:Int)(w:World)(h:Lib.IsBuilder 128 5 B b bs w)(hlen:bs.length+1<=140737488355328)(hBw:B<=w.heap.size):
 Calls Tryz.prog 136 #[.pointer (some ⟨b,0,none⟩),.int .u8 c] w λe w'=>e= .returned .nilIface/\(Lib.BuilderAt 128 5 B b (.pointer (some ⟨b,0,none⟩)) (bs++[.int .u8 c]) w'/\Below B w w'):=Any.Builder_WriteByte Tryz.ag Tryz.IE B b bs c w h hlen hBw
open Go.RowKit in
def Tryz.Builder_WriteString(B b:Nat)(bs:List Value)(s:ByteArray)(w:World)(h:Lib.IsBuilder 128 5 B b bs w)(hlen:bs.length+s.size<=140737488355328)(hBw:B<=w.heap.size):
 Calls Tryz.prog 133 #[.pointer (some ⟨b,0,none⟩),.string s] w λe w'=>e= .returned (.tuple #[.int .i64 s.size,.nilIface])/\(Lib.BuilderAt 128 5 B b (.pointer (some ⟨b,0,none⟩)) (bs++Lib.strCells s) w'/\Below B w w'):=Any.Builder_WriteString {Tryz.WZ with} Tryz.IE B b bs s w h hlen hBw
end Go.Proofs
