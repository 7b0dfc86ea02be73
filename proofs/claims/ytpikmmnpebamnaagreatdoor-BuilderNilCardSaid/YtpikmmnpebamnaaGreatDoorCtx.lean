/-
  The choices with which the abstract machine reads this program: loop vectors, kinds of variables. Written by a program; they bear no trust. No law is claimed here.
-/
import Derived.Test.YtpikmmnpebamnaaGreatDoorPrimDefs
import Derived.Test.YtpikmmnpebamnaaGreatDoorProg
set_option linter.unusedSimpArgs false
set_option linter.unusedVariables false
namespace Go.Am
def hLive : FuncId → Nat → List (Nat × Sh)
  | 4, 24 => [(4, .val), (14, .val)]
  | 4, 17 => [(12, .val), (13, .val)]
  | 4, 13 => [(4, .val), (11, .val)]
  | 7, 5 => [(11, .val)]
  | 17, 12 => [(94, .val)]
  | 17, 5 => [(3, .box 13 []), (63, .val)]
  | 18, 4 => [(4, .val), (5, .val)]
  | 20, 2 => [(2, .val), (3, .val)]
  | 23, 4 => [(6, .val), (26, .val)]
  | 24, 4 => [(4, .val), (5, .val)]
  | 25, 2 => [(4, .val), (5, .val)]
  | 26, 2 => [(4, .val), (5, .val)]
  | 33, 5 => [(27, .val)]
  | 35, 4 => [(4, .val), (5, .val)]
  | 40, 7 => [(3, .box 13 []), (5, .val)]
  | 40, 3 => [(3, .box 13 []), (4, .val)]
  | 50, 3 => [(2, .val)]
  | 54, 9 => [(4, .val), (6, .val)]
  | 54, 4 => [(4, .val), (5, .val)]
  | 56, 4 => [(4, .val), (11, .val)]
  | 69, 5 => [(2, .val)]
  | 69, 2 => [(2, .val)]
  | 70, 2 => [(4, .val)]
  | 77, 5 => [(4, .val), (5, .val), (6, .val)]
  | 78, 2 => [(4, .val), (8, .val)]
  | 82, 4 => [(4, .val), (5, .val)]
  | 83, 25 => [(150, .val)]
  | 85, 7 => [(48, .val)]
  | 89, 3 => [(9, .val)]
  | 90, 6 => [(6, .val), (7, .val)]
  | 91, 1 => [(2, .val)]
  | 94, 4 => [(4, .val), (5, .val)]
  | 95, 5 => [(3, .own), (12, .val)]
  | 96, 3 => [(3, .own), (4, .val)]
  | 98, 4 => [(6, .own), (27, .val)]
  | 108, 2 => [(4, .val), (8, .val)]
  | 113, 2 => [(6, .val), (7, .val), (13, .val)]
  | 116, 3 => [(2, .val), (3, .val), (4, .own), (9, .val)]
  | 127, 2 => [(3, .val)]
  | 128, 2 => [(7, .val)]
  | 136, 4 => [(4, .val), (5, .val)]
  | 139, 3 => [(4, .val), (6, .val)]
  | 140, 2 => [(8, .val), (9, .val)]
  | 146, 18 => [(3, .val), (79, .val)]
  | 149, 2 => [(2, .val), (3, .val)]
  | 150, 7 => [(5, .val), (6, .val)]
  | 150, 3 => [(3, .own), (4, .val)]
  | 155, 7 => [(10, .own), (11, .val)]
  | 156, 5 => [(4, .val), (5, .val), (6, .val)]
  | 157, 3 => [(3, .own), (4, .val)]
  | 163, 2 => [(4, .val), (10, .val)]
  | 164, 2 => [(2, .val), (7, .val)]
  | 167, 2 => [(4, .val), (8, .val)]
  | 172, 3 => [(10, .val)]
  | 173, 2 => [(4, .val), (8, .val)]
  | 175, 2 => [(4, .val), (5, .val)]
  | 177, 2 => [(4, .val), (5, .val)]
  | 204, 2 => [(4, .val), (5, .val)]
  | 206, 2 => [(4, .val), (5, .val)]
  | 208, 27 => [(12, .val)]
  | 208, 21 => [(10, .val), (11, .val), (12, .val)]
  | 208, 18 => [(12, .val)]
  | 208, 5 => [(3, .val), (4, .val), (5, .val), (6, .val)]
  | 216, 2 => [(4, .val), (8, .val)]
  | 226, 3 => [(2, .val), (6, .val)]
  | 227, 3 => [(5, .own), (6, .val)]
  | 228, 4 => [(4, .val), (5, .val)]
  | 229, 16 => [(49, .val)]
  | 229, 4 => [(5, .own), (6, .val)]
  | 243, 1 => [(2, .val), (3, .val)]
  | 247, 28 => [(12, .val)]
  | 247, 20 => [(8, .val)]
  | 247, 15 => [(61, .val)]
  | 247, 6 => [(2, .val), (4, .val), (5, .val)]
  | 250, 1 => [(1, .val), (4, .val)]
  | 251, 11 => [(1, .val), (13, .val)]
  | 251, 18 => [(1, .val), (13, .val)]
  | 252, 14 => [(4, .val), (7, .val), (8, .val)]
  | 252, 3 => [(4, .val), (20, .val)]
  | 253, 14 => [(4, .val), (7, .val), (8, .val)]
  | 253, 3 => [(4, .val), (16, .val)]
  | 259, 26 => [(12, .val)]
  | 259, 17 => [(9, .val), (58, .val)]
  | 259, 11 => [(41, .val)]
  | 259, 7 => [(6, .val)]
  | 259, 3 => [(4, .val)]
  | 269, 20 => [(9, .val)]
  | 269, 14 => [(7, .val), (8, .val)]
  | 269, 9 => [(6, .val)]
  | 269, 4 => [(20, .val)]
  | 270, 6 => [(10, .val)]
  | 277, 5 => [(2, .val), (3, .val), (4, .val), (5, .val), (6, .val)]
  | 280, 4 => [(4, .val)]
  | 281, 1 => [(4, .val)]
  | 306, 3 => [(6, .val), (7, .val)]
  | 307, 3 => [(6, .val), (7, .val), (9, .val)]
  | 308, 4 => [(5, .val), (6, .val)]
  | 308, 2 => [(4, .val), (5, .val)]
  | 310, 5 => [(6, .val), (7, .val), (9, .val), (11, .val), (12, .val)]
  | 312, 4 => [(1, .val), (6, .val), (7, .val), (8, .val), (9, .val), (10, .val), (11, .val)]
  | 313, 3 => [(5, .val), (6, .val)]
  | 314, 4 => [(6, .val), (7, .val), (9, .val), (10, .val)]
  | 315, 24 => [(13, .val), (14, .val)]
  | 315, 5 => [(5, .val), (6, .val), (32, .val)]
  | 315, 13 => [(5, .val), (6, .val), (10, .val)]
  | 316, 4 => [(6, .val), (7, .val), (9, .val), (10, .val)]
  | 317, 6 => [(0, .val), (4, .val), (5, .val)]
  | 318, 2 => [(2, .val)]
  | 321, 15 => [(4, .val), (8, .val), (10, .val)]
  | 325, 11 => [(4, .val), (8, .val), (10, .val)]
  | 325, 5 => [(8, .val), (9, .val)]
  | 327, 8 => [(6, .val), (7, .val), (8, .val)]
  | 327, 3 => [(4, .val), (5, .val)]
  | _, _ => []
def hKind : FuncId → Nat → BoxKind
  | 5, 8 => .heap
  | 12, 2 => .heap
  | 15, 23 => .heap
  | 34, 5 => .heap
  | 36, 4 => .heap
  | 39, 12 => .heap
  | 83, 36 => .heap
  | 145, 9 => .heap
  | 223, 11 => .heap
  | 240, 5 => .heap
  | 247, 6 => .heap
  | 247, 11 => .heap
  | 251, 12 => .heap
  | 258, 9 => .heap
  | 259, 13 => .heap
  | 269, 16 => .heap
  | 270, 100 => .heap
  | 270, 101 => .heap
  | 270, 163 => .heap
  | 270, 210 => .heap
  | 270, 230 => .heap
  | 306, 5 => .heap
  | 309, 5 => .heap
  | _, _ => .priv
def hJoins : FuncId → Nat → Option (List (Nat × Sh))
  | 77, 37 => some []
  | 77, 32 => some [(4, .val), (5, .val)]
  | 77, 11 => some []
  | 98, 67 => some [(9, .box 3 [])]
  | 98, 43 => some [(9, .box 3 [])]
  | 98, 36 => some [(9, .box 3 [])]
  | _, _ => none
def hJoinR : FuncId → Nat → Option (List (Nat × Sh))
  | 98, 12 => some [(67, .val)]
  | 98, 9 => some [(43, .val)]
  | _, _ => none
def hOwn : FuncId → Bool
  | _ => false
def hObjs : FuncId → Nat → Bool
  | 17, 72 => true
  | 23, 41 => true
  | 40, 73 => true
  | 40, 102 => true
  | 42, 13 => true
  | 79, 12 => true
  | 87, 12 => true
  | 87, 21 => true
  | 122, 7 => true
  | 135, 10 => true
  | 135, 24 => true
  | 135, 49 => true
  | 135, 77 => true
  | 144, 14 => true
  | 147, 14 => true
  | 172, 7 => true
  | 190, 26 => true
  | 190, 31 => true
  | 210, 26 => true
  | 210, 31 => true
  | 217, 7 => true
  | 247, 124 => true
  | 100053, 7 => true
  | _, _ => false
def hSnap : FuncId → Nat → Bool
  | 53, 7 => true
  | 115, 7 => true
  | _, _ => false
def hFrzRet : FuncId → Bool
  | 208 => true
  | 229 => true
  | _ => false
def hFrzEnd : FuncId → List (Nat × Nat)
  | 69 => [(0, 3)]
  | 137 => [(1, 3)]
  | 192 => [(0, 0)]
  | 193 => [(0, 0)]
  | _ => []
def hPrim : FuncId → Option (List AVal → IT)
  | 34 => some (pDump 146)
  | 36 => some pNewRef
  | 168 => some pContains
  | 224 => some (pReplace 239 315 315)
  | _ => none
def hAlt : FuncId → FuncId → FuncId
  | 57, 53 => 100053
  | _, f => f
def hAltIds : List FuncId := [100053]
def hIns : FuncId → Bool
  | 170 => true
  | _ => false
def hPure : FuncId → Bool
  | 7 => true
  | 99 => true
  | 107 => true
  | 110 => true
  | 145 => true
  | 148 => true
  | 156 => true
  | 157 => true
  | 162 => true
  | 163 => true
  | 171 => true
  | 172 => true
  | 182 => true
  | 186 => true
  | 197 => true
  | 200 => true
  | 201 => true
  | 204 => true
  | 205 => true
  | 213 => true
  | 221 => true
  | 225 => true
  | 230 => true
  | 240 => true
  | 248 => true
  | 249 => true
  | 260 => true
  | 261 => true
  | 262 => true
  | 263 => true
  | 264 => true
  | 268 => true
  | 271 => true
  | 272 => true
  | 281 => true
  | 317 => true
  | 318 => true
  | 320 => true
  | 321 => true
  | 322 => true
  | 324 => true
  | 325 => true
  | _ => false
/-- The bytes that are ASCII white space. -/
def spaceTab : List Int := (List.range 256).map fun i => if (9 ≤ i ∧ i ≤ 13) ∨ i = 32 then 1 else 0
def spaceCells : List AVal := spaceTab.map fun n => .int .u8 n
def hGlob : Nat → Option (List AVal)
  | 0 => some spaceCells
  | _ => none
noncomputable def cx : Ctx := { P := Proofs.Tryz.prog, live := fun f => hLive (realOf f), joins := fun f => hJoins (realOf f), joinR := fun f => hJoinR (realOf f), kind := fun f => hKind (realOf f), ownRet := hOwn, pureF := hPure, objs := hObjs, snap := hSnap, frzRet := hFrzRet, frzEnd := hFrzEnd, glob := hGlob, prim := hPrim, alt := hAlt, ins := hIns }
end Go.Am
