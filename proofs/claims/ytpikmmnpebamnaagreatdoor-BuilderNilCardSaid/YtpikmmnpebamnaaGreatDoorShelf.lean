/-
  Contracts of the library at this program, laid by the kit's tools: the numbers under which the library's functions and types stand here, each body held against the one that the contract was proved of. No law is claimed here.
-/
import Derived.Shelf.Strings.Builder1
import Derived.Shelf.Strings.Repeat
import Derived.Shelf.Spec.SlicesInsert
import Derived.Shelf.Spec.SlicesInsertGrow
import Derived.Test.YtpikmmnpebamnaaGreatDoorProg
namespace Go.Proofs
open Go.Shelf
def Tryz.lays169_ren : Go.Shelf.Ren := ⟨fun | 169 => 86 | n => n, fun | 70 => 142 | 9 => 9 | 0 => 0 | 72 => 144 | 37 => 136 | 127 => 202 | 3 => 3 | 5 => 5 | n => n, fun | n => n⟩
theorem Tryz.lays169 : Go.Proofs.Lays.n169 Tryz.prog Tryz.lays169_ren := {
  mixed := by kernel_rfl
  f169 := Tryz.func86.trans (congrArg some (by kernel_rfl))
  t0 := Tryz.underlying0
  a0 := Tryz.isAgg0
  z0 := Tryz.sizeOf0
  v0 := Tryz.zeroValue0
  t3 := Tryz.underlying3
  a3 := Tryz.isAgg3
  z3 := Tryz.sizeOf3
  v3 := Tryz.zeroValue3
  t9 := Tryz.underlying9
  a9 := Tryz.isAgg9
  z9 := Tryz.sizeOf9
  v9 := Tryz.zeroValue9
  t37 := Tryz.underlying136
  a37 := Tryz.isAgg136
  z37 := Tryz.sizeOf136
  v37 := Tryz.zeroValue136
  t70 := Tryz.underlying142
  a70 := Tryz.isAgg142
  z70 := Tryz.sizeOf142
  v70 := Tryz.zeroValue142
  t72 := Tryz.underlying144
  a72 := Tryz.isAgg144
  z72 := Tryz.sizeOf144
  v72 := Tryz.zeroValue144
  t127 := Tryz.underlying202
  a127 := Tryz.isAgg202
  z127 := Tryz.sizeOf202
  v127 := Tryz.zeroValue202 }
theorem Tryz.Builder_Extra_169 : Builder.Extra Tryz.prog Tryz.lays169_ren := {
  sizeBuilder := by kernel_rfl
  liesBuilder := by kernel_rfl
  t5 := Tryz.underlying5
  a5 := Tryz.isAgg5
  z5 := Tryz.sizeOf5
  v5 := Tryz.zeroValue5
  infoByte := by kernel_rfl
  cellsByte := by kernel_rfl
  sizeByte := by kernel_rfl
  neB5 := by decide }
open Go.RowKit in
/-- (*strings.Builder).String: "String returns the accumulated string.": WHATEVER THE BUILDER HOLDS. (LAID: no walk: one application.) -/
theorem Tryz.Builder_String_any (B b : Nat) (l : List UInt8) (w : World) (h : Lib.IsBuilder 144 5 B b (Lib.byteCells l) w) (hBw : B ≤ w.heap.size) :
    Calls Tryz.prog 86 #[.pointer (some ⟨b, 0, none⟩)] w fun e w' => e = .returned (.string ⟨l.toArray⟩) ∧ Below B w w' := Any.Builder_String_any Tryz.lays169 Tryz.Builder_Extra_169 B b l w h hBw
def Tryz.lays105_ren : Go.Shelf.Ren := ⟨fun | 105 => 145 | 167 => 147 | 212 => 196 | 99 => 197 | 165 => 198 | 166 => 144 | 170 => 199 | 169 => 86 | 263 => 219 | 264 => 220 | 206 => 221 | 240 => 195 | 241 => 222 | 276 => 218 | 277 => 237 | n => n, fun | 9 => 9 | 3 => 3 | 4 => 4 | 20 => 20 | 0 => 0 | 46 => 224 | 109 => 229 | 5 => 5 | 72 => 144 | 76 => 196 | 51 => 185 | 146 => 247 | 53 => 249 | 148 => 250 | 70 => 142 | 37 => 136 | 75 => 195 | 127 => 202 | 164 => 245 | 80 => 146 | n => n, fun | n => n⟩
theorem Tryz.lays105 : Go.Proofs.Lays.n105 Tryz.prog Tryz.lays105_ren := {
  mixed := by kernel_rfl
  f99 := Tryz.func197.trans (congrArg some (by kernel_rfl))
  f105 := Tryz.func145.trans (congrArg some (by kernel_rfl))
  f165 := Tryz.func198.trans (congrArg some (by kernel_rfl))
  f166 := Tryz.func144.trans (congrArg some (by kernel_rfl))
  f169 := Tryz.func86.trans (congrArg some (by kernel_rfl))
  f170 := Tryz.func199.trans (congrArg some (by kernel_rfl))
  f206 := Tryz.func221.trans (congrArg some (by kernel_rfl))
  f212 := Tryz.func196.trans (congrArg some (by kernel_rfl))
  f240 := Tryz.func195.trans (congrArg some (by kernel_rfl))
  f241 := Tryz.func222.trans (congrArg some (by kernel_rfl))
  f263 := Tryz.func219.trans (congrArg some (by kernel_rfl))
  f264 := Tryz.func220.trans (congrArg some (by kernel_rfl))
  f276 := Tryz.func218.trans (congrArg some (by kernel_rfl))
  f277 := Tryz.func237.trans (congrArg some (by kernel_rfl))
  t0 := Tryz.underlying0
  a0 := Tryz.isAgg0
  z0 := Tryz.sizeOf0
  v0 := Tryz.zeroValue0
  t3 := Tryz.underlying3
  a3 := Tryz.isAgg3
  z3 := Tryz.sizeOf3
  v3 := Tryz.zeroValue3
  t4 := Tryz.underlying4
  a4 := Tryz.isAgg4
  z4 := Tryz.sizeOf4
  v4 := Tryz.zeroValue4
  t5 := Tryz.underlying5
  a5 := Tryz.isAgg5
  z5 := Tryz.sizeOf5
  v5 := Tryz.zeroValue5
  t9 := Tryz.underlying9
  a9 := Tryz.isAgg9
  z9 := Tryz.sizeOf9
  v9 := Tryz.zeroValue9
  t20 := Tryz.underlying20
  a20 := Tryz.isAgg20
  z20 := Tryz.sizeOf20
  v20 := Tryz.zeroValue20
  t37 := Tryz.underlying136
  a37 := Tryz.isAgg136
  z37 := Tryz.sizeOf136
  v37 := Tryz.zeroValue136
  t46 := Tryz.underlying224
  a46 := Tryz.isAgg224
  z46 := Tryz.sizeOf224
  v46 := Tryz.zeroValue224
  t51 := Tryz.underlying185
  a51 := Tryz.isAgg185
  z51 := Tryz.sizeOf185
  v51 := Tryz.zeroValue185
  t53 := Tryz.underlying249
  a53 := Tryz.isAgg249
  z53 := Tryz.sizeOf249
  v53 := Tryz.zeroValue249
  t70 := Tryz.underlying142
  a70 := Tryz.isAgg142
  z70 := Tryz.sizeOf142
  v70 := Tryz.zeroValue142
  t72 := Tryz.underlying144
  a72 := Tryz.isAgg144
  z72 := Tryz.sizeOf144
  v72 := Tryz.zeroValue144
  t75 := Tryz.underlying195
  a75 := Tryz.isAgg195
  z75 := Tryz.sizeOf195
  v75 := Tryz.zeroValue195
  t76 := Tryz.underlying196
  a76 := Tryz.isAgg196
  z76 := Tryz.sizeOf196
  v76 := Tryz.zeroValue196
  t109 := Tryz.underlying229
  a109 := Tryz.isAgg229
  z109 := Tryz.sizeOf229
  v109 := Tryz.zeroValue229
  t127 := Tryz.underlying202
  a127 := Tryz.isAgg202
  z127 := Tryz.sizeOf202
  v127 := Tryz.zeroValue202
  t146 := Tryz.underlying247
  a146 := Tryz.isAgg247
  z146 := Tryz.sizeOf247
  v146 := Tryz.zeroValue247
  t148 := Tryz.underlying250
  a148 := Tryz.isAgg250
  z148 := Tryz.sizeOf250
  v148 := Tryz.zeroValue250
  t164 := Tryz.underlying245
  a164 := Tryz.isAgg245
  z164 := Tryz.sizeOf245
  v164 := Tryz.zeroValue245 }
theorem Tryz.Builder_Extra_105 : Builder.Extra Tryz.prog Tryz.lays105_ren := {
  sizeBuilder := by kernel_rfl
  liesBuilder := by kernel_rfl
  t5 := Tryz.underlying5
  a5 := Tryz.isAgg5
  z5 := Tryz.sizeOf5
  v5 := Tryz.zeroValue5
  infoByte := by kernel_rfl
  cellsByte := by kernel_rfl
  sizeByte := by kernel_rfl
  neB5 := by decide }
open Go.RowKit Go.Lib in
/-- **strings.Repeat: count ≥ 0, the result within one allocation: count copies of s.** (LAID: no walk: one application.) -/
theorem Tryz.strings_Repeat (s : ByteArray) (c : Nat) (w : World) (hc : c ≤ 9223372036854775807) (hlen : s.size * c ≤ 140737488355328) :
    Calls Tryz.prog 145 #[.string s, .int .i64 c] w fun e w' => e = .returned (.string ⟨(Lib.repeatL s.data.toList c).toArray⟩) ∧ Below w.heap.size w w' := Any.strings_Repeat Tryz.lays105 Tryz.Builder_Extra_105 s c w hc hlen
def Tryz.laysNm221_ren : Go.Shelf.Ren := ⟨fun | 21 => 170 | 27 => 211 | 28 => 212 | 35 => 232 | 39 => 243 | n => n, fun | 22 => 62 | 3 => 3 | 4 => 4 | 0 => 0 | n => n, fun | n => n⟩
theorem Tryz.laysNm221 : Go.Proofs.Lays2.n21 Tryz.prog Tryz.laysNm221_ren := {
  mixed := by kernel_rfl
  f21 := Tryz.func170.trans (congrArg some (by kernel_rfl))
  f27 := Tryz.func211.trans (congrArg some (by kernel_rfl))
  f28 := Tryz.func212.trans (congrArg some (by kernel_rfl))
  f35 := Tryz.func232.trans (congrArg some (by kernel_rfl))
  f39 := Tryz.func243.trans (congrArg some (by kernel_rfl))
  t0 := Tryz.underlying0
  a0 := Tryz.isAgg0
  z0 := Tryz.sizeOf0
  v0 := Tryz.zeroValue0
  t3 := Tryz.underlying3
  a3 := Tryz.isAgg3
  z3 := Tryz.sizeOf3
  v3 := Tryz.zeroValue3
  t4 := Tryz.underlying4
  a4 := Tryz.isAgg4
  z4 := Tryz.sizeOf4
  v4 := Tryz.zeroValue4
  t22 := Tryz.underlying62
  a22 := Tryz.isAgg62
  z22 := Tryz.sizeOf62
  v22 := Tryz.zeroValue62
  i3 := by kernel_rfl }
theorem Tryz.lays167 : Go.Proofs.Lays.n167 Tryz.prog Tryz.lays105_ren := { Tryz.lays105 with
  f167 := Tryz.func147.trans (congrArg some (by kernel_rfl)) }
open Go.RowKit in
theorem Tryz.Builder_WriteByte (B b : Nat) (bs : List Value) (c : Int) (w : World) (h : Lib.IsBuilder 144 5 B b bs w) (hlen : bs.length + 1 ≤ 140737488355328) (hBw : B ≤ w.heap.size) :
    Calls Tryz.prog 147 #[.pointer (some ⟨b, 0, none⟩), .int .u8 c] w fun e w' => e = .returned .nilIface ∧ (Lib.BuilderAt 144 5 B b (.pointer (some ⟨b, 0, none⟩)) (bs ++ [.int .u8 c]) w' ∧ Below B w w') := Any.Builder_WriteByte Tryz.lays167 Tryz.Builder_Extra_105 B b bs c w h hlen hBw
open Go.RowKit in
theorem Tryz.Builder_WriteString (B b : Nat) (bs : List Value) (s : ByteArray) (w : World) (h : Lib.IsBuilder 144 5 B b bs w) (hlen : bs.length + s.size ≤ 140737488355328) (hBw : B ≤ w.heap.size) :
    Calls Tryz.prog 144 #[.pointer (some ⟨b, 0, none⟩), .string s] w fun e w' => e = .returned (.tuple #[.int .i64 s.size, .nilIface]) ∧ (Lib.BuilderAt 144 5 B b (.pointer (some ⟨b, 0, none⟩)) (bs ++ Lib.strCells s) w' ∧ Below B w w') := Any.Builder_WriteString { Tryz.lays105 with } Tryz.Builder_Extra_105 B b bs s w h hlen hBw
end Go.Proofs
