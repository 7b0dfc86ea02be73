/-
  The choices with which the abstract machine reads this program: loop vectors, kinds of variables. Written by a program; they bear no trust. No law is claimed here.
-/
import Derived.Test.YtejpjabbdkpmiaaDoorAm4
import Derived.Test.YtejpjabbdkpmiaaDoorProg
set_option linter.unusedSimpArgs false
set_option linter.unusedVariables false
namespace Go.Am
def hLive : FuncId → Nat → List (Nat × Sh)
  | 5, 6 => [(10, .val)]
  | 12, 9 => [(7, .val)]
  | 14, 6 => [(6, .val), (8, .val), (9, .val)]
  | 15, 14 => [(6, .val), (7, .val)]
  | 15, 10 => [(2, .val), (5, .val)]
  | 15, 5 => [(2, .val), (4, .val)]
  | 17, 15 => [(6, .val), (10, .val)]
  | 17, 7 => [(6, .val), (8, .val)]
  | 18, 6 => [(2, .val), (4, .val), (5, .val)]
  | 19, 5 => [(4, .val), (6, .val)]
  | 21, 2 => [(2, .val), (3, .val)]
  | 22, 2 => [(2, .val), (3, .val)]
  | 23, 11 => [(5, .val)]
  | 23, 3 => [(10, .val)]
  | 24, 3 => [(4, .val)]
  | 26, 2 => [(6, .val), (7, .val)]
  | 35, 4 => [(4, .val), (5, .val)]
  | 41, 2 => [(2, .val), (3, .val)]
  | 47, 6 => [(6, .val), (7, .val)]
  | 49, 3 => [(5, .val), (6, .val)]
  | 50, 3 => [(5, .val), (6, .val)]
  | 51, 3 => [(4, .val), (6, .val)]
  | 52, 5 => [(4, .val), (6, .val)]
  | 54, 8 => [(2, .val), (3, .val)]
  | 67, 4 => [(4, .val), (5, .val)]
  | 68, 3 => [(3, .own), (4, .val)]
  | 71, 5 => [(4, .val), (5, .val), (6, .val)]
  | 74, 9 => [(4, .val), (6, .val)]
  | 74, 4 => [(4, .val), (5, .val)]
  | 75, 8 => [(2, .val), (26, .val)]
  | 77, 2 => [(2, .val), (3, .val)]
  | 80, 4 => [(4, .val), (5, .val)]
  | 81, 3 => [(5, .val), (6, .val)]
  | 82, 4 => [(4, .val), (5, .val)]
  | 83, 3 => [(5, .val), (6, .val)]
  | 84, 4 => [(4, .val), (5, .val)]
  | 85, 4 => [(6, .own), (27, .val)]
  | 86, 4 => [(4, .val), (5, .val)]
  | 87, 3 => [(5, .own), (6, .val)]
  | 88, 2 => [(2, .val), (3, .val)]
  | 99, 2 => [(6, .val), (7, .val)]
  | 101, 2 => [(7, .val)]
  | 106, 2 => [(4, .val), (5, .val)]
  | 109, 5 => [(4, .val), (5, .val), (6, .val)]
  | 110, 2 => [(4, .val), (8, .val)]
  | 113, 3 => [(3, .own), (4, .val)]
  | 116, 2 => [(4, .val), (10, .val)]
  | 117, 3 => [(4, .val), (5, .val), (6, .val)]
  | 121, 2 => [(3, .val)]
  | 130, 2 => [(4, .val), (5, .val)]
  | 134, 3 => [(5, .val), (6, .val), (7, .val)]
  | 137, 3 => [(5, .own), (6, .val)]
  | 139, 3 => [(3, .val), (4, .val)]
  | 140, 2 => [(4, .val), (5, .val)]
  | 146, 2 => [(4, .val), (5, .val)]
  | 148, 2 => [(7, .val)]
  | 149, 2 => [(4, .val), (5, .val)]
  | 157, 2 => [(4, .val), (5, .val)]
  | 158, 3 => [(10, .val)]
  | 160, 27 => [(12, .val)]
  | 160, 21 => [(10, .val), (11, .val), (12, .val)]
  | 160, 18 => [(12, .val)]
  | 160, 5 => [(3, .val), (4, .val), (5, .val), (6, .val)]
  | 165, 2 => [(4, .val), (8, .val)]
  | 174, 2 => [(4, .val), (8, .val)]
  | 176, 16 => [(49, .val)]
  | 176, 4 => [(5, .own), (6, .val)]
  | 178, 2 => [(4, .val), (8, .val)]
  | 182, 14 => [(4, .val), (7, .val), (8, .val)]
  | 182, 3 => [(4, .val), (20, .val)]
  | 183, 14 => [(4, .val), (7, .val), (8, .val)]
  | 183, 3 => [(4, .val), (16, .val)]
  | _, _ => []
def hKind : FuncId → Nat → BoxKind
  | 5, 8 => .heap
  | 5, 9 => .heap
  | 12, 21 => .heap
  | 14, 22 => .heap
  | 15, 13 => .heap
  | 18, 15 => .heap
  | 23, 7 => .heap
  | 23, 81 => .heap
  | 24, 6 => .heap
  | 38, 1 => .heap
  | _, _ => .priv
def hJoins : FuncId → Nat → Option (List (Nat × Sh))
  | 15, 76 => some [(6, .val)]
  | 15, 25 => some []
  | 71, 37 => some []
  | 71, 32 => some [(4, .val), (5, .val)]
  | 71, 11 => some []
  | 85, 67 => some [(9, .box 3 [])]
  | 85, 43 => some [(9, .box 3 [])]
  | 85, 36 => some [(9, .box 3 [])]
  | 87, 73 => some [(7, .box 3 [])]
  | 87, 68 => some [(7, .box 3 [])]
  | 87, 54 => some [(7, .box 3 [])]
  | 87, 45 => some [(7, .box 3 [])]
  | 87, 44 => some [(7, .box 3 [])]
  | 87, 34 => some [(7, .box 3 [])]
  | 87, 31 => some [(7, .box 3 [])]
  | _, _ => none
def hJoinR : FuncId → Nat → Option (List (Nat × Sh))
  | 15, 14 => some [(59, .val)]
  | 85, 12 => some [(67, .val)]
  | 85, 9 => some [(43, .val)]
  | 87, 13 => some [(54, .val)]
  | 87, 10 => some [(44, .val)]
  | 87, 6 => some [(31, .val)]
  | _, _ => none
def hOwn : FuncId → Bool
  | _ => false
def hObjs : FuncId → Nat → Bool
  | 12, 19 => true
  | 118, 7 => true
  | 126, 7 => true
  | 150, 23 => true
  | 158, 7 => true
  | 170, 16 => true
  | _, _ => false
def hSnap : FuncId → Nat → Bool
  | 164, 7 => true
  | _, _ => false
def hFrzRet : FuncId → Bool
  | 145 => true
  | 146 => true
  | 147 => true
  | 148 => true
  | 149 => true
  | 150 => true
  | 151 => true
  | 160 => true
  | 176 => true
  | _ => false
def hFrzEnd : FuncId → List (Nat × Nat)
  | 66 => [(0, 0)]
  | 73 => [(0, 0)]
  | _ => []
def hPure : FuncId → Bool
  | 9 => true
  | 10 => true
  | 23 => true
  | 36 => true
  | 42 => true
  | 43 => true
  | 44 => true
  | 45 => true
  | 55 => true
  | 56 => true
  | 57 => true
  | 58 => true
  | 59 => true
  | 60 => true
  | 61 => true
  | 62 => true
  | 63 => true
  | 64 => true
  | 65 => true
  | 109 => true
  | 112 => true
  | 113 => true
  | 116 => true
  | 117 => true
  | 129 => true
  | 132 => true
  | 141 => true
  | 157 => true
  | 158 => true
  | 159 => true
  | 166 => true
  | 175 => true
  | 177 => true
  | _ => false
/-- The bytes that are ASCII white space. -/
def spaceTab : List Int := (List.range 256).map fun i => if (9 ≤ i ∧ i ≤ 13) ∨ i = 32 then 1 else 0
def spaceCells : List AVal := spaceTab.map fun n => .int .u8 n
def hGlob : Nat → Option (List AVal)
  | 0 => some spaceCells
  | _ => none
noncomputable def cx : Ctx := { P := Proofs.Tryd.prog, live := hLive, joins := hJoins, joinR := hJoinR, kind := hKind, ownRet := hOwn, pureF := hPure, objs := hObjs, snap := hSnap, frzRet := hFrzRet, frzEnd := hFrzEnd, glob := hGlob }
end Go.Am
