/- Parts of the proof. No law is claimed here. -/
import Derived.Shelf.Strings.Builder1
import Derived.Shelf.Strings.Repeat
import Derived.Shelf.Spec.SlicesInsert
import Derived.Shelf.Spec.SlicesInsertGrow
import Derived.Test.YtbicpeplenomhaaGreatDoorProg
set_option linter.unusedVariables false
set_option linter.unusedSimpArgs false
namespace Go.Proofs
open Go.Shelf
def Tryz.lays169_ren:Go.Shelf.Ren:=⟨λ|169=>113|n=>n,λ|70=>154|9=>9|0=>0|72=>156|37=>136|127=>204|3=>3|5=>5|n=>n,λ|n=>n⟩
theorem Tryz.lays169:Go.Proofs.Lays.n169 Tryz.prog Tryz.lays169_ren:={
 mixed:=by kernel_rfl
 f169:=Tryz.func113.trans (congrArg some (by kernel_rfl))
 t0:=Tryz.underlying0
 a0:=Tryz.isAgg0
 z0:=Tryz.sizeOf0
 v0:=Tryz.zeroValue0
 t3:=Tryz.underlying3
 a3:=Tryz.isAgg3
 z3:=Tryz.sizeOf3
 v3:=Tryz.zeroValue3
 t9:=Tryz.underlying9
 a9:=Tryz.isAgg9
 z9:=Tryz.sizeOf9
 v9:=Tryz.zeroValue9
 t37:=Tryz.underlying136
 a37:=Tryz.isAgg136
 z37:=Tryz.sizeOf136
 v37:=Tryz.zeroValue136
 t70:=Tryz.underlying154
 a70:=Tryz.isAgg154
 z70:=Tryz.sizeOf154
 v70:=Tryz.zeroValue154
 t72:=Tryz.underlying156
 a72:=Tryz.isAgg156
 z72:=Tryz.sizeOf156
 v72:=Tryz.zeroValue156
 t127:=Tryz.underlying204
 a127:=Tryz.isAgg204
 z127:=Tryz.sizeOf204
 v127:=Tryz.zeroValue204}
theorem Tryz.Builder_Extra_169:Builder.Extra Tryz.prog Tryz.lays169_ren:={
 sizeBuilder:=by kernel_rfl
 liesBuilder:=by kernel_rfl
 t5:=Tryz.underlying5
 a5:=Tryz.isAgg5
 z5:=Tryz.sizeOf5
 v5:=Tryz.zeroValue5
 infoByte:=by kernel_rfl
 cellsByte:=by kernel_rfl
 sizeByte:=by kernel_rfl
 neB5:=by decide}
open Go.RowKit in
theorem Tryz.Builder_String_any (B b:Nat) (l:List UInt8) (w:World) (h:Lib.IsBuilder 156 5 B b (Lib.byteCells l) w) (hBw:B≤w.heap.size):
 Calls Tryz.prog 113 #[.pointer (some ⟨b,0,none⟩)] w λe w'=>e= .returned (.string ⟨l.toArray⟩)∧Below B w w':=Any.Builder_String_any Tryz.lays169 Tryz.Builder_Extra_169 B b l w h hBw
def Tryz.lays105_ren:Go.Shelf.Ren:=⟨λ|105=>162|167=>164|212=>192|99=>193|165=>194|166=>161|170=>195|169=>113|263=>209|264=>210|206=>211|240=>191|241=>212|276=>208|277=>224|n=>n,λ|9=>9|3=>3|4=>4|20=>20|0=>0|46=>222|109=>227|5=>5|72=>156|76=>199|51=>183|146=>241|53=>243|148=>244|70=>154|37=>136|75=>198|127=>204|164=>239|80=>158|n=>n,λ|n=>n⟩
theorem Tryz.lays105:Go.Proofs.Lays.n105 Tryz.prog Tryz.lays105_ren:={
 mixed:=by kernel_rfl
 f99:=Tryz.func193.trans (congrArg some (by kernel_rfl))
 f105:=Tryz.func162.trans (congrArg some (by kernel_rfl))
 f165:=Tryz.func194.trans (congrArg some (by kernel_rfl))
 f166:=Tryz.func161.trans (congrArg some (by kernel_rfl))
 f169:=Tryz.func113.trans (congrArg some (by kernel_rfl))
 f170:=Tryz.func195.trans (congrArg some (by kernel_rfl))
 f206:=Tryz.func211.trans (congrArg some (by kernel_rfl))
 f212:=Tryz.func192.trans (congrArg some (by kernel_rfl))
 f240:=Tryz.func191.trans (congrArg some (by kernel_rfl))
 f241:=Tryz.func212.trans (congrArg some (by kernel_rfl))
 f263:=Tryz.func209.trans (congrArg some (by kernel_rfl))
 f264:=Tryz.func210.trans (congrArg some (by kernel_rfl))
 f276:=Tryz.func208.trans (congrArg some (by kernel_rfl))
 f277:=Tryz.func224.trans (congrArg some (by kernel_rfl))
 t0:=Tryz.underlying0
 a0:=Tryz.isAgg0
 z0:=Tryz.sizeOf0
 v0:=Tryz.zeroValue0
 t3:=Tryz.underlying3
 a3:=Tryz.isAgg3
 z3:=Tryz.sizeOf3
 v3:=Tryz.zeroValue3
 t4:=Tryz.underlying4
 a4:=Tryz.isAgg4
 z4:=Tryz.sizeOf4
 v4:=Tryz.zeroValue4
 t5:=Tryz.underlying5
 a5:=Tryz.isAgg5
 z5:=Tryz.sizeOf5
 v5:=Tryz.zeroValue5
 t9:=Tryz.underlying9
 a9:=Tryz.isAgg9
 z9:=Tryz.sizeOf9
 v9:=Tryz.zeroValue9
 t20:=Tryz.underlying20
 a20:=Tryz.isAgg20
 z20:=Tryz.sizeOf20
 v20:=Tryz.zeroValue20
 t37:=Tryz.underlying136
 a37:=Tryz.isAgg136
 z37:=Tryz.sizeOf136
 v37:=Tryz.zeroValue136
 t46:=Tryz.underlying222
 a46:=Tryz.isAgg222
 z46:=Tryz.sizeOf222
 v46:=Tryz.zeroValue222
 t51:=Tryz.underlying183
 a51:=Tryz.isAgg183
 z51:=Tryz.sizeOf183
 v51:=Tryz.zeroValue183
 t53:=Tryz.underlying243
 a53:=Tryz.isAgg243
 z53:=Tryz.sizeOf243
 v53:=Tryz.zeroValue243
 t70:=Tryz.underlying154
 a70:=Tryz.isAgg154
 z70:=Tryz.sizeOf154
 v70:=Tryz.zeroValue154
 t72:=Tryz.underlying156
 a72:=Tryz.isAgg156
 z72:=Tryz.sizeOf156
 v72:=Tryz.zeroValue156
 t75:=Tryz.underlying198
 a75:=Tryz.isAgg198
 z75:=Tryz.sizeOf198
 v75:=Tryz.zeroValue198
 t76:=Tryz.underlying199
 a76:=Tryz.isAgg199
 z76:=Tryz.sizeOf199
 v76:=Tryz.zeroValue199
 t109:=Tryz.underlying227
 a109:=Tryz.isAgg227
 z109:=Tryz.sizeOf227
 v109:=Tryz.zeroValue227
 t127:=Tryz.underlying204
 a127:=Tryz.isAgg204
 z127:=Tryz.sizeOf204
 v127:=Tryz.zeroValue204
 t146:=Tryz.underlying241
 a146:=Tryz.isAgg241
 z146:=Tryz.sizeOf241
 v146:=Tryz.zeroValue241
 t148:=Tryz.underlying244
 a148:=Tryz.isAgg244
 z148:=Tryz.sizeOf244
 v148:=Tryz.zeroValue244
 t164:=Tryz.underlying239
 a164:=Tryz.isAgg239
 z164:=Tryz.sizeOf239
 v164:=Tryz.zeroValue239}
theorem Tryz.Builder_Extra_105:Builder.Extra Tryz.prog Tryz.lays105_ren:={
 sizeBuilder:=by kernel_rfl
 liesBuilder:=by kernel_rfl
 t5:=Tryz.underlying5
 a5:=Tryz.isAgg5
 z5:=Tryz.sizeOf5
 v5:=Tryz.zeroValue5
 infoByte:=by kernel_rfl
 cellsByte:=by kernel_rfl
 sizeByte:=by kernel_rfl
 neB5:=by decide}
open Go.RowKit Go.Lib in
theorem Tryz.strings_Repeat (s:ByteArray) (c:Nat) (w:World) (hc:c≤9223372036854775807) (hlen:s.size*c≤140737488355328):
 Calls Tryz.prog 162 #[.string s,.int .i64 c] w λe w'=>e= .returned (.string ⟨(Lib.repeatL s.data.toList c).toArray⟩)∧Below w.heap.size w w':=Any.strings_Repeat Tryz.lays105 Tryz.Builder_Extra_105 s c w hc hlen
def Tryz.laysNm221_ren:Go.Shelf.Ren:=⟨λ|21=>182|27=>204|28=>205|35=>221|39=>229|n=>n,λ|22=>37|3=>3|4=>4|0=>0|n=>n,λ|n=>n⟩
theorem Tryz.laysNm221:Go.Proofs.Lays2.n21 Tryz.prog Tryz.laysNm221_ren:={
 mixed:=by kernel_rfl
 f21:=Tryz.func182.trans (congrArg some (by kernel_rfl))
 f27:=Tryz.func204.trans (congrArg some (by kernel_rfl))
 f28:=Tryz.func205.trans (congrArg some (by kernel_rfl))
 f35:=Tryz.func221.trans (congrArg some (by kernel_rfl))
 f39:=Tryz.func229.trans (congrArg some (by kernel_rfl))
 t0:=Tryz.underlying0
 a0:=Tryz.isAgg0
 z0:=Tryz.sizeOf0
 v0:=Tryz.zeroValue0
 t3:=Tryz.underlying3
 a3:=Tryz.isAgg3
 z3:=Tryz.sizeOf3
 v3:=Tryz.zeroValue3
 t4:=Tryz.underlying4
 a4:=Tryz.isAgg4
 z4:=Tryz.sizeOf4
 v4:=Tryz.zeroValue4
 t22:=Tryz.underlying37
 a22:=Tryz.isAgg37
 z22:=Tryz.sizeOf37
 v22:=Tryz.zeroValue37
 i3:=by kernel_rfl}
theorem Tryz.lays167:Go.Proofs.Lays.n167 Tryz.prog Tryz.lays105_ren:={Tryz.lays105 with
 f167:=Tryz.func164.trans (congrArg some (by kernel_rfl))}
open Go.RowKit in
theorem Tryz.Builder_WriteByte (B b:Nat) (bs:List Value) (c:Int) (w:World) (h:Lib.IsBuilder 156 5 B b bs w) (hlen:bs.length+1≤140737488355328) (hBw:B≤w.heap.size):
 Calls Tryz.prog 164 #[.pointer (some ⟨b,0,none⟩),.int .u8 c] w λe w'=>e= .returned .nilIface∧(Lib.BuilderAt 156 5 B b (.pointer (some ⟨b,0,none⟩)) (bs++[.int .u8 c]) w'∧Below B w w'):=Any.Builder_WriteByte Tryz.lays167 Tryz.Builder_Extra_105 B b bs c w h hlen hBw
open Go.RowKit in
theorem Tryz.Builder_WriteString (B b:Nat) (bs:List Value) (s:ByteArray) (w:World) (h:Lib.IsBuilder 156 5 B b bs w) (hlen:bs.length+s.size≤140737488355328) (hBw:B≤w.heap.size):
 Calls Tryz.prog 161 #[.pointer (some ⟨b,0,none⟩),.string s] w λe w'=>e= .returned (.tuple #[.int .i64 s.size,.nilIface])∧(Lib.BuilderAt 156 5 B b (.pointer (some ⟨b,0,none⟩)) (bs++Lib.strCells s) w'∧Below B w w'):=Any.Builder_WriteString {Tryz.lays105 with} Tryz.Builder_Extra_105 B b bs s w h hlen hBw
end Go.Proofs
