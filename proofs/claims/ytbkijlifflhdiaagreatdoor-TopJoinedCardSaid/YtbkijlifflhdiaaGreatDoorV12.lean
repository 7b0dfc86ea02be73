/- Lemmas -/
import Derived.Shelf.Strings.Repeat
import Derived.Shelf.Spec.SlicesInsertGrow
import Derived.Test.YtbkijlifflhdiaaGreatDoorProg
set_option linter.all false
namespace Go.Proofs
open Go.Shelf
def Tryz.Rd:Go.Shelf.Ren:=⟨λ|169=>58|n=>n,λ|70=>122|9=>9|0=>0|72=>124|37=>113|127=>162|3=>3|5=>5|n=>n,λ|n=>n⟩
def Tryz.xQ:Go.Proofs.Lays.n169 Tryz.prog Tryz.Rd:={
 mixed:=by kernel_rfl
 f169:=Tryz.func58.trans (congrArg some (by kernel_rfl))
 t0:=Tryz.underlying0
 a0:=Tryz.isAgg0
 z0:=Tryz.sizeOf0
 v0:=Tryz.zeroValue0
 t3:=Tryz.underlying3
 a3:=Tryz.isAgg3
 z3:=Tryz.sizeOf3
 v3:=Tryz.zeroValue3
 t9:=Tryz.underlying9
 a9:=Tryz.isAgg9
 z9:=Tryz.sizeOf9
 v9:=Tryz.zeroValue9
 t37:=Tryz.underlying113
 a37:=Tryz.isAgg113
 z37:=Tryz.sizeOf113
 v37:=Tryz.zeroValue113
 t70:=Tryz.underlying122
 a70:=Tryz.isAgg122
 z70:=Tryz.sizeOf122
 v70:=Tryz.zeroValue122
 t72:=Tryz.underlying124
 a72:=Tryz.isAgg124
 z72:=Tryz.sizeOf124
 v72:=Tryz.zeroValue124
 t127:=Tryz.underlying162
 a127:=Tryz.isAgg162
 z127:=Tryz.sizeOf162
 v127:=Tryz.zeroValue162}
def Tryz.Pj:Builder.Extra Tryz.prog Tryz.Rd:={
 sizeBuilder:=by kernel_rfl
 liesBuilder:=by kernel_rfl
 t5:=Tryz.underlying5
 a5:=Tryz.isAgg5
 z5:=Tryz.sizeOf5
 v5:=Tryz.zeroValue5
 infoByte:=by kernel_rfl
 cellsByte:=by kernel_rfl
 sizeByte:=by kernel_rfl
 neB5:=by decide}
open Go.RowKit in
def Tryz.Builder_String_any(B b:Nat)(l:List UInt8)(w:World)(h:Lib.IsBuilder 124 5 B b (Lib.byteCells l) w)(hBw:B<=w.heap.size):
 Calls Tryz.prog 58 #[.pointer (some ⟨b,0,none⟩)] w λe w'=>e= .returned (.string ⟨l.toArray⟩)/\Below B w w':=Any.Builder_String_any Tryz.xQ Tryz.Pj B b l w h hBw
def Tryz.M3:Go.Shelf.Ren:=⟨λ|105=>102|167=>104|212=>145|99=>146|165=>147|166=>101|170=>148|169=>58|263=>188|264=>189|206=>190|240=>144|241=>191|276=>187|277=>210|n=>n,λ|9=>9|3=>3|4=>4|20=>20|0=>0|46=>191|109=>195|5=>5|72=>124|76=>156|51=>150|146=>226|53=>228|148=>229|70=>122|37=>113|75=>155|127=>162|164=>224|80=>126|n=>n,λ|n=>n⟩
def Tryz.WN:Go.Proofs.Lays.n105 Tryz.prog Tryz.M3:={
 mixed:=by kernel_rfl
 f99:=Tryz.func146.trans (congrArg some (by kernel_rfl))
 f105:=Tryz.func102.trans (congrArg some (by kernel_rfl))
 f165:=Tryz.func147.trans (congrArg some (by kernel_rfl))
 f166:=Tryz.func101.trans (congrArg some (by kernel_rfl))
 f169:=Tryz.func58.trans (congrArg some (by kernel_rfl))
 f170:=Tryz.func148.trans (congrArg some (by kernel_rfl))
 f206:=Tryz.func190.trans (congrArg some (by kernel_rfl))
 f212:=Tryz.func145.trans (congrArg some (by kernel_rfl))
 f240:=Tryz.func144.trans (congrArg some (by kernel_rfl))
 f241:=Tryz.func191.trans (congrArg some (by kernel_rfl))
 f263:=Tryz.func188.trans (congrArg some (by kernel_rfl))
 f264:=Tryz.func189.trans (congrArg some (by kernel_rfl))
 f276:=Tryz.func187.trans (congrArg some (by kernel_rfl))
 f277:=Tryz.func210.trans (congrArg some (by kernel_rfl))
 t0:=Tryz.underlying0
 a0:=Tryz.isAgg0
 z0:=Tryz.sizeOf0
 v0:=Tryz.zeroValue0
 t3:=Tryz.underlying3
 a3:=Tryz.isAgg3
 z3:=Tryz.sizeOf3
 v3:=Tryz.zeroValue3
 t4:=Tryz.underlying4
 a4:=Tryz.isAgg4
 z4:=Tryz.sizeOf4
 v4:=Tryz.zeroValue4
 t5:=Tryz.underlying5
 a5:=Tryz.isAgg5
 z5:=Tryz.sizeOf5
 v5:=Tryz.zeroValue5
 t9:=Tryz.underlying9
 a9:=Tryz.isAgg9
 z9:=Tryz.sizeOf9
 v9:=Tryz.zeroValue9
 t20:=Tryz.underlying20
 a20:=Tryz.isAgg20
 z20:=Tryz.sizeOf20
 v20:=Tryz.zeroValue20
 t37:=Tryz.underlying113
 a37:=Tryz.isAgg113
 z37:=Tryz.sizeOf113
 v37:=Tryz.zeroValue113
 t46:=Tryz.underlying191
 a46:=Tryz.isAgg191
 z46:=Tryz.sizeOf191
 v46:=Tryz.zeroValue191
 t51:=Tryz.underlying150
 a51:=Tryz.isAgg150
 z51:=Tryz.sizeOf150
 v51:=Tryz.zeroValue150
 t53:=Tryz.underlying228
 a53:=Tryz.isAgg228
 z53:=Tryz.sizeOf228
 v53:=Tryz.zeroValue228
 t70:=Tryz.underlying122
 a70:=Tryz.isAgg122
 z70:=Tryz.sizeOf122
 v70:=Tryz.zeroValue122
 t72:=Tryz.underlying124
 a72:=Tryz.isAgg124
 z72:=Tryz.sizeOf124
 v72:=Tryz.zeroValue124
 t75:=Tryz.underlying155
 a75:=Tryz.isAgg155
 z75:=Tryz.sizeOf155
 v75:=Tryz.zeroValue155
 t76:=Tryz.underlying156
 a76:=Tryz.isAgg156
 z76:=Tryz.sizeOf156
 v76:=Tryz.zeroValue156
 t109:=Tryz.underlying195
 a109:=Tryz.isAgg195
 z109:=Tryz.sizeOf195
 v109:=Tryz.zeroValue195
 t127:=Tryz.underlying162
 a127:=Tryz.isAgg162
 z127:=Tryz.sizeOf162
 v127:=Tryz.zeroValue162
 t146:=Tryz.underlying226
 a146:=Tryz.isAgg226
 z146:=Tryz.sizeOf226
 v146:=Tryz.zeroValue226
 t148:=Tryz.underlying229
 a148:=Tryz.isAgg229
 z148:=Tryz.sizeOf229
 v148:=Tryz.zeroValue229
 t164:=Tryz.underlying224
 a164:=Tryz.isAgg224
 z164:=Tryz.sizeOf224
 v164:=Tryz.zeroValue224}
def Tryz.Ip:Builder.Extra Tryz.prog Tryz.M3:={
 sizeBuilder:=by kernel_rfl
 liesBuilder:=by kernel_rfl
 t5:=Tryz.underlying5
 a5:=Tryz.isAgg5
 z5:=Tryz.sizeOf5
 v5:=Tryz.zeroValue5
 infoByte:=by kernel_rfl
 cellsByte:=by kernel_rfl
 sizeByte:=by kernel_rfl
 neB5:=by decide}
open Go.RowKit Go.Lib in
def Tryz.strings_Repeat(s:ByteArray)(c:Nat)(w:World)(hc:c<=9223372036854775807)(hlen:s.size*c<=140737488355328):
 Calls Tryz.prog 102 #[.string s,.int .i64 c] w λe w'=>e= .returned (.string ⟨(Lib.repeatL s.data.toList c).toArray⟩)/\Below w.heap.size w w':=Any.strings_Repeat Tryz.WN Tryz.Ip s c w hc hlen
def Tryz.UF:Go.Shelf.Ren:=⟨λ|21=>143|27=>185|28=>186|35=>209|39=>222|n=>n,λ|22=>52|3=>3|4=>4|0=>0|n=>n,λ|n=>n⟩
def Tryz.LH:Go.Proofs.Lays2.n21 Tryz.prog Tryz.UF:={
 mixed:=by kernel_rfl
 f21:=Tryz.func143.trans (congrArg some (by kernel_rfl))
 f27:=Tryz.func185.trans (congrArg some (by kernel_rfl))
 f28:=Tryz.func186.trans (congrArg some (by kernel_rfl))
 f35:=Tryz.func209.trans (congrArg some (by kernel_rfl))
 f39:=Tryz.func222.trans (congrArg some (by kernel_rfl))
 t0:=Tryz.underlying0
 a0:=Tryz.isAgg0
 z0:=Tryz.sizeOf0
 v0:=Tryz.zeroValue0
 t3:=Tryz.underlying3
 a3:=Tryz.isAgg3
 z3:=Tryz.sizeOf3
 v3:=Tryz.zeroValue3
 t4:=Tryz.underlying4
 a4:=Tryz.isAgg4
 z4:=Tryz.sizeOf4
 v4:=Tryz.zeroValue4
 t22:=Tryz.underlying52
 a22:=Tryz.isAgg52
 z22:=Tryz.sizeOf52
 v22:=Tryz.zeroValue52
 i3:=by kernel_rfl}
def Tryz.xR:Go.Proofs.Lays.n167 Tryz.prog Tryz.M3:={Tryz.WN with
 f167:=Tryz.func104.trans (congrArg some (by kernel_rfl))}
open Go.RowKit in
def Tryz.Builder_WriteByte(B b:Nat)(bs:List Value)(c:Int)(w:World)(h:Lib.IsBuilder 124 5 B b bs w)(hlen:bs.length+1<=140737488355328)(hBw:B<=w.heap.size):
 Calls Tryz.prog 104 #[.pointer (some ⟨b,0,none⟩),.int .u8 c] w λe w'=>e= .returned .nilIface/\(Lib.BuilderAt 124 5 B b (.pointer (some ⟨b,0,none⟩)) (bs++[.int .u8 c]) w'/\Below B w w'):=Any.Builder_WriteByte Tryz.xR Tryz.Ip B b bs c w h hlen hBw
open Go.RowKit in
def Tryz.Builder_WriteString(B b:Nat)(bs:List Value)(s:ByteArray)(w:World)(h:Lib.IsBuilder 124 5 B b bs w)(hlen:bs.length+s.size<=140737488355328)(hBw:B<=w.heap.size):
 Calls Tryz.prog 101 #[.pointer (some ⟨b,0,none⟩),.string s] w λe w'=>e= .returned (.tuple #[.int .i64 s.size,.nilIface])/\(Lib.BuilderAt 124 5 B b (.pointer (some ⟨b,0,none⟩)) (bs++Lib.strCells s) w'/\Below B w w'):=Any.Builder_WriteString {Tryz.WN with} Tryz.Ip B b bs s w h hlen hBw
end Go.Proofs
