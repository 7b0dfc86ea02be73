/-
  The trees of the functions, written by a program; each is held against the code by the kernel. No law is claimed here.
-/
import Derived.Test.YtejpjabbdkpmiaaDoorCtx
import Derived.KernelRfl
namespace Go.Am
open Go
set_option linter.unusedVariables false
def t118 (v900 : AVal) : IT :=
 .op (.nileq false .sl) [v900, .slnil] fun v0 =>
 .cnd v0 (
  .ret .ret [.slnil]) (
  .op (.mksl 4) [] fun v1 =>
  .objOf 4 40 v1 v900 fun v2 =>
  .ret .ret [v2])
theorem t118_eq (v900 : AVal) : afun cx 118 [v900] = t118 v900 := by kernel_rfl
def t119 (v900 v901 v902 : AVal) : IT :=
 .cells 4 v901 fun c0 =>
 .op (.slc 4 false false true) [v900, v902] fun v1 =>
 .op (.append 4 40) [.slnil, v1] fun v2 =>
 .op (.mksl 4) [(.agg [(g c0 0), (g c0 1), (g c0 2), (g c0 3)])] fun v3 =>
 .op (.append 4 40) [v2, v3] fun v4 =>
 .op (.slc 4 false true false) [v900, v902] fun v5 =>
 .op (.append 4 40) [v4, v5] fun v6 =>
 .ret .ret [v6]
theorem t119_eq (v900 v901 v902 : AVal) : afun cx 119 [v900, v901, v902] = t119 v900 v901 v902 := by kernel_rfl
def t120 (v900 v901 : AVal) : IT :=
 .op (.slc 4 false false true) [v900, v901] fun v0 =>
 .op (.append 4 40) [.slnil, v0] fun v1 =>
 .op (.int .add) [v901, (I 1)] fun v2 =>
 .op (.slc 4 false true false) [v900, v2] fun v3 =>
 .op (.append 4 40) [v1, v3] fun v4 =>
 .ret .ret [v4]
theorem t120_eq (v900 v901 : AVal) : afun cx 120 [v900, v901] = t120 v900 v901 := by kernel_rfl
def t121 (v900 : AVal) : IT :=
 .op .nonnil [v900] fun v0 =>
 .op (.faddr 0) [v0] fun v1 =>
 .load none v1 fun v2 =>
 .op (.len false) [v2] fun v3 =>
 .loop 2 [v3] (fun c4 =>
  .op (.int .gtr) [(g c4 0), (I 0)] fun v5 =>
  .cnd v5 (
   .op .nonnil [v900] fun v6 =>
   .op (.faddr 0) [v6] fun v7 =>
   .load none v7 fun v8 =>
   .op (.int .sub) [(g c4 0), (I 1)] fun v9 =>
   .op (.eaddr 3) [v8, v9] fun v10 =>
   .op (.faddr 0) [v10] fun v11 =>
   .load none v11 fun v12 =>
   .op (.int .neq) [v12, (I 0)] fun v13 =>
   .cnd v13 (
    .op (.int .sub) [(g c4 0), (I 1)] fun v14 =>
    .ret .normal [v14]) (
    .ret (.exit 0) [(g c4 0)])) (
   .ret (.exit 0) [(g c4 0)])) (
 fun x c15 => match x with
 | .normal =>
  .ret .ret [(g c15 0)]
 | .exit i =>
  if i = 0 then
   .ret .ret [(g c15 0)]
  else
  .fail
 | .ret =>
  .ret .ret [(I 0)])
theorem t121_eq (v900 : AVal) : afun cx 121 [v900] = t121 v900 := by kernel_rfl
def t122 (v900 v901 : AVal) : IT :=
 .cells 3 v900 fun c0 =>
 .cells 3 v901 fun c1 =>
 .op (.str .eql) [(g c0 1), (g c1 1)] fun v2 =>
 .cnd v2 (
  .op (.len false) [(g c0 2)] fun v3 =>
  .op (.len false) [(g c1 2)] fun v4 =>
  .op (.int .eql) [v3, v4] fun v5 =>
  .cnd v5 (
   .callv (.func (.func 161) [] []) [(g c0 2), (g c1 2)] fun v6 =>
   .cnd v6 (
    .callv (.func (.func 161) [] []) [(g c1 2), (g c0 2)] fun v7 =>
    .ret .ret [v7]) (
    .ret .ret [ff])) (
   .ret .ret [ff])) (
  .ret .ret [ff])
theorem t122_eq (v900 v901 : AVal) : afun cx 122 [v900, v901] = t122 v900 v901 := by kernel_rfl
def t123 (v900 v901 : AVal) : IT :=
 .op (.slc 3 false false true) [v900, v901] fun v0 =>
 .op (.append 3 48) [.slnil, v0] fun v1 =>
 .op (.int .add) [v901, (I 1)] fun v2 =>
 .op (.slc 3 false true false) [v900, v2] fun v3 =>
 .op (.append 3 48) [v1, v3] fun v4 =>
 .ret .ret [v4]
theorem t123_eq (v900 v901 : AVal) : afun cx 123 [v900, v901] = t123 v900 v901 := by kernel_rfl
def t124 (v900 v901 v902 : AVal) : IT :=
 .cells 3 v901 fun c0 =>
 .op (.slc 3 false false true) [v900, v902] fun v1 =>
 .op (.append 3 48) [.slnil, v1] fun v2 =>
 .op (.mksl 3) [(.agg [(g c0 0), (g c0 1), (g c0 2)])] fun v3 =>
 .op (.append 3 48) [v2, v3] fun v4 =>
 .op (.slc 3 false true false) [v900, v902] fun v5 =>
 .op (.append 3 48) [v4, v5] fun v6 =>
 .ret .ret [v6]
theorem t124_eq (v900 v901 v902 : AVal) : afun cx 124 [v900, v901, v902] = t124 v900 v901 v902 := by kernel_rfl
def t125 (v900 : AVal) : IT :=
 .cells 3 v900 fun c0 =>
 .call 164 [(g c0 2)] fun v1 =>
 .cells 1 v1 fun c2 =>
 .cells 3 (.agg [(g c0 0), (g c0 1), (g c2 0)]) fun c3 =>
 .ret .ret [(.agg [(g c3 0), (g c3 1), (g c3 2)])]
theorem t125_eq (v900 : AVal) : afun cx 125 [v900] = t125 v900 := by kernel_rfl
def t126 (v900 : AVal) : IT :=
 .op (.nileq false .sl) [v900, .slnil] fun v0 =>
 .cnd v0 (
  .ret .ret [.slnil]) (
  .op (.mksl 3) [] fun v1 =>
  .objOf 3 48 v1 v900 fun v2 =>
  .ret .ret [v2])
theorem t126_eq (v900 : AVal) : afun cx 126 [v900] = t126 v900 := by kernel_rfl
def t127 (v900 v901 : AVal) : IT :=
 .op (.faddr 3) [v901] fun v0 =>
 .load none v0 fun v1 =>
 .op (.len true) [v1] fun v2 =>
 .op (.len true) [v900] fun v3 =>
 .op (.int .geq) [v2, v3] fun v4 =>
 .cnd v4 (
  .op (.faddr 3) [v901] fun v5 =>
  .load none v5 fun v6 =>
  .op (.len true) [v900] fun v7 =>
  .op (.slc 0 true false true) [v6, v7] fun v8 =>
  .pcall 112 [v8, v900] fun v9 =>
  .ret .ret [v9]) (
  .ret .ret [ff])
theorem t127_eq (v900 v901 : AVal) : afun cx 127 [v900, v901] = t127 v900 v901 := by kernel_rfl
def t128 (v900 v901 : AVal) : IT :=
 .call 165 [v900, v901] fun v0 =>
 .op (.int .geq) [v0, (I 0)] fun v1 =>
 .ret .ret [v1]
theorem t128_eq (v900 v901 : AVal) : afun cx 128 [v900, v901] = t128 v900 v901 := by kernel_rfl
def t129 (v900 v901 : AVal) : IT :=
 .pcall 113 [v900] fun v0 =>
 .pcall 113 [v901] fun v1 =>
 .op (.str .eql) [v0, v1] fun v2 =>
 .ret .ret [v2]
theorem t129_eq (v900 v901 : AVal) : afun cx 129 [v900, v901] = t129 v900 v901 := by kernel_rfl
def t130 (v900 v901 : AVal) : IT :=
 .loop 2 [ff, (I 0)] (fun c0 =>
  .op (.len false) [v901] fun v1 =>
  .op (.int .lss) [(g c0 1), v1] fun v2 =>
  .cnd v2 (
   .op (.eaddr 1) [v901, (g c0 1)] fun v3 =>
   .load none v3 fun v4 =>
   .pcall 113 [v900] fun v5 =>
   .pcall 113 [v4] fun v6 =>
   .pcall 166 [v5, v6] fun v7 =>
   .cnd v7 (
    .ret .ret [tt, (g c0 1)]) (
    .op (.int .add) [(g c0 1), (I 1)] fun v8 =>
    .ret .normal [(g c0 0), v8])) (
   .ret (.exit 0) [(g c0 0), (g c0 1)])) (
 fun x c9 => match x with
 | .normal =>
  .ret .ret [ff]
 | .exit i =>
  if i = 0 then
   .ret .ret [ff]
  else
  .fail
 | .ret =>
  .ret .ret [(g c9 0)])
theorem t130_eq (v900 v901 : AVal) : afun cx 130 [v900, v901] = t130 v900 v901 := by kernel_rfl
def t131 (v900 v901 : AVal) : IT :=
 .cells 6 v900 fun c0 =>
 .op (.append 3 40) [.slnil, (g c0 4)] fun v1 =>
 .op (.mkagg [(I 0), (S []), .slnil] [(0, 1), (1, 1), (2, 1)]) [v901, (g c0 3), v1] fun v2 =>
 .cells 3 v2 fun c3 =>
 .ret .ret [(.agg [(g c3 0), (g c3 1), (g c3 2)])]
theorem t131_eq (v900 v901 : AVal) : afun cx 131 [v900, v901] = t131 v900 v901 := by kernel_rfl
def t132 (v900 : AVal) : IT :=
 .cnd v900 (
  .ret .ret [(I 1)]) (
  .ret .ret [(I 0)])
theorem t132_eq (v900 : AVal) : afun cx 132 [v900] = t132 v900 := by kernel_rfl
def t133 (v900 v901 : AVal) : IT :=
 .call 82 [v900, v901] fun v0 =>
 .op (.int .lss) [v0, (I 0)] fun v1 =>
 .cnd v1 (
  .ret .ret [ff]) (
  .op .nonnil [v900] fun v2 =>
  .op (.faddr 0) [v2] fun v3 =>
  .load none v3 fun v4 =>
  .call 123 [v4, v0] fun v5 =>
  .op .nonnil [v900] fun v6 =>
  .op (.faddr 0) [v6] fun v7 =>
  .store 1 v7 v5 (
  .ret .ret [tt]))
theorem t133_eq (v900 v901 : AVal) : afun cx 133 [v900, v901] = t133 v900 v901 := by kernel_rfl
def t134 (v900 v901 : AVal) : IT :=
 .cells 3 v901 fun c0 =>
 .call 139 [v900] fun v1 =>
 .loop 3 [(I (-1)), (I 0), v1] (fun c2 =>
  .op (.len false) [v900] fun v3 =>
  .op (.int .lss) [(g c2 2), v3] fun v4 =>
  .cnd v4 (
   .op (.eaddr 3) [v900, (g c2 2)] fun v5 =>
   .load (some 3) v5 fun v6 =>
   .call 84 [v6, (.agg [(g c0 0), (g c0 1), (g c0 2)])] fun v7 =>
   .cnd v7 (
    .op (.int .add) [(g c2 1), (I 1)] fun v8 =>
    .op (.int .lss) [(g c2 0), (I 0)] fun v9 =>
    .cnd v9 (
     .op (.int .add) [(g c2 2), (I 1)] fun v10 =>
     .ret .normal [(g c2 2), v8, v10]) (
     .op (.int .add) [(g c2 2), (I 1)] fun v11 =>
     .ret .normal [(g c2 0), v8, v11])) (
    .op (.int .add) [(g c2 2), (I 1)] fun v12 =>
    .ret .normal [(g c2 0), (g c2 1), v12])) (
   .ret (.exit 0) [(g c2 0), (g c2 1), (g c2 2)])) (
 fun x c13 => match x with
 | .normal =>
  .op (.int .neq) [(g c0 0), (I 0)] fun v14 =>
  .cnd v14 (
   .op (.int .geq) [(g c13 1), (I 3)] fun v15 =>
   .cnd v15 (
    .call 137 [v900, (g c13 0)] fun v16 =>
    .op (.len false) [v16] fun v17 =>
    .call 135 [v16, (.agg [(g c0 0), (g c0 1), (g c0 2)]), v17] fun v18 =>
    .ret .ret [v18]) (
    .op (.len false) [v900] fun v19 =>
    .call 135 [v900, (.agg [(g c0 0), (g c0 1), (g c0 2)]), v19] fun v20 =>
    .ret .ret [v20])) (
   .op (.len false) [v900] fun v21 =>
   .call 135 [v900, (.agg [(g c0 0), (g c0 1), (g c0 2)]), v21] fun v22 =>
   .ret .ret [v22])
 | .exit i =>
  if i = 0 then
   .op (.int .neq) [(g c0 0), (I 0)] fun v23 =>
   .cnd v23 (
    .op (.int .geq) [(g c13 1), (I 3)] fun v24 =>
    .cnd v24 (
     .call 137 [v900, (g c13 0)] fun v25 =>
     .op (.len false) [v25] fun v26 =>
     .call 135 [v25, (.agg [(g c0 0), (g c0 1), (g c0 2)]), v26] fun v27 =>
     .ret .ret [v27]) (
     .op (.len false) [v900] fun v28 =>
     .call 135 [v900, (.agg [(g c0 0), (g c0 1), (g c0 2)]), v28] fun v29 =>
     .ret .ret [v29])) (
    .op (.len false) [v900] fun v30 =>
    .call 135 [v900, (.agg [(g c0 0), (g c0 1), (g c0 2)]), v30] fun v31 =>
    .ret .ret [v31])
  else
  .fail
 | .ret =>
  .ret .ret [.slnil])
theorem t134_eq (v900 v901 : AVal) : afun cx 134 [v900, v901] = t134 v900 v901 := by kernel_rfl
def t135 (v900 v901 v902 : AVal) : IT :=
 .cells 3 v901 fun c0 =>
 .op (.int .lss) [v902, (I 0)] fun v1 =>
 .cnd v1 (
  .op (.len false) [v900] fun v2 =>
  .op (.int .gtr) [(I 0), v2] fun v3 =>
  .cnd v3 (
   .op (.len false) [v900] fun v4 =>
   .op (.slc 3 false false true) [v900, v4] fun v5 =>
   .op (.append 3 48) [.slnil, v5] fun v6 =>
   .call 167 [(.agg [(g c0 0), (g c0 1), (g c0 2)])] fun v7 =>
   .op (.mksl 3) [v7] fun v8 =>
   .op (.append 3 48) [v6, v8] fun v9 =>
   .op (.slc 3 false true false) [v900, v4] fun v10 =>
   .op (.append 3 48) [v9, v10] fun v11 =>
   .ret .ret [v11]) (
   .op (.slc 3 false false true) [v900, (I 0)] fun v12 =>
   .op (.append 3 48) [.slnil, v12] fun v13 =>
   .call 167 [(.agg [(g c0 0), (g c0 1), (g c0 2)])] fun v14 =>
   .op (.mksl 3) [v14] fun v15 =>
   .op (.append 3 48) [v13, v15] fun v16 =>
   .op (.slc 3 false true false) [v900, (I 0)] fun v17 =>
   .op (.append 3 48) [v16, v17] fun v18 =>
   .ret .ret [v18])) (
  .op (.len false) [v900] fun v19 =>
  .op (.int .gtr) [v902, v19] fun v20 =>
  .cnd v20 (
   .op (.len false) [v900] fun v21 =>
   .op (.slc 3 false false true) [v900, v21] fun v22 =>
   .op (.append 3 48) [.slnil, v22] fun v23 =>
   .call 167 [(.agg [(g c0 0), (g c0 1), (g c0 2)])] fun v24 =>
   .op (.mksl 3) [v24] fun v25 =>
   .op (.append 3 48) [v23, v25] fun v26 =>
   .op (.slc 3 false true false) [v900, v21] fun v27 =>
   .op (.append 3 48) [v26, v27] fun v28 =>
   .ret .ret [v28]) (
   .op (.slc 3 false false true) [v900, v902] fun v29 =>
   .op (.append 3 48) [.slnil, v29] fun v30 =>
   .call 167 [(.agg [(g c0 0), (g c0 1), (g c0 2)])] fun v31 =>
   .op (.mksl 3) [v31] fun v32 =>
   .op (.append 3 48) [v30, v32] fun v33 =>
   .op (.slc 3 false true false) [v900, v902] fun v34 =>
   .op (.append 3 48) [v33, v34] fun v35 =>
   .ret .ret [v35]))
theorem t135_eq (v900 v901 v902 : AVal) : afun cx 135 [v900, v901, v902] = t135 v900 v901 v902 := by kernel_rfl
def t136 (v900 : AVal) : IT :=
 .call 139 [v900] fun v0 =>
 .op (.int .sub) [v0, (I 1)] fun v1 =>
 .op (.int .lss) [v1, (I 0)] fun v2 =>
 .cnd v2 (
  .op (.slc 3 false false true) [v900, (I 0)] fun v3 =>
  .op (.append 3 48) [.slnil, v3] fun v4 =>
  .ret .ret [v4]) (
  .op (.slc 3 false false true) [v900, v1] fun v5 =>
  .op (.append 3 48) [.slnil, v5] fun v6 =>
  .ret .ret [v6])
theorem t136_eq (v900 : AVal) : afun cx 136 [v900] = t136 v900 := by kernel_rfl
def t137 (v900 v901 : AVal) : IT :=
 .loop 3 [.slnil, (I 0)] (fun c0 =>
  .op (.len false) [v900] fun v1 =>
  .op (.int .lss) [(g c0 1), v1] fun v2 =>
  .cnd v2 (
   .op (.int .neq) [(g c0 1), v901] fun v3 =>
   .cnd v3 (
    .op (.eaddr 3) [v900, (g c0 1)] fun v4 =>
    .load (some 3) v4 fun v5 =>
    .op (.mksl 3) [v5] fun v6 =>
    .op (.append 3 48) [(g c0 0), v6] fun v7 =>
    .op (.int .add) [(g c0 1), (I 1)] fun v8 =>
    .ret .normal [v7, v8]) (
    .op (.int .add) [(g c0 1), (I 1)] fun v9 =>
    .ret .normal [(g c0 0), v9])) (
   .ret (.exit 0) [(g c0 0), (g c0 1)])) (
 fun x c10 => match x with
 | .normal =>
  .ret .ret [(g c10 0)]
 | .exit i =>
  if i = 0 then
   .ret .ret [(g c10 0)]
  else
  .fail
 | .ret =>
  .ret .ret [.slnil])
theorem t137_eq (v900 v901 : AVal) : afun cx 137 [v900, v901] = t137 v900 v901 := by kernel_rfl
def t138 (v900 v901 v902 : AVal) : IT :=
 .cells 3 v902 fun c0 =>
 .call 83 [v900, v901] fun v1 =>
 .op (.int .lss) [v1, (I 0)] fun v2 =>
 .cnd v2 (
  .ret .ret [(.tuple [v900, ff])]) (
  .call 137 [v900, v1] fun v3 =>
  .call 135 [v3, (.agg [(g c0 0), (g c0 1), (g c0 2)]), v1] fun v4 =>
  .ret .ret [(.tuple [v4, tt])])
theorem t138_eq (v900 v901 v902 : AVal) : afun cx 138 [v900, v901, v902] = t138 v900 v901 v902 := by kernel_rfl
def t139 (v900 : AVal) : IT :=
 .loop 3 [(I 0), (I 0)] (fun c0 =>
  .op (.len false) [v900] fun v1 =>
  .op (.int .lss) [(g c0 1), v1] fun v2 =>
  .cnd v2 (
   .op (.eaddr 3) [v900, (g c0 1)] fun v3 =>
   .op (.faddr 0) [v3] fun v4 =>
   .load none v4 fun v5 =>
   .op (.int .eql) [v5, (I 0)] fun v6 =>
   .cnd v6 (
    .op (.int .add) [(g c0 1), (I 1)] fun v7 =>
    .op (.int .add) [(g c0 1), (I 1)] fun v8 =>
    .ret .normal [v7, v8]) (
    .op (.int .add) [(g c0 1), (I 1)] fun v9 =>
    .ret .normal [(g c0 0), v9])) (
   .ret (.exit 0) [(g c0 0), (g c0 1)])) (
 fun x c10 => match x with
 | .normal =>
  .ret .ret [(g c10 0)]
 | .exit i =>
  if i = 0 then
   .ret .ret [(g c10 0)]
  else
  .fail
 | .ret =>
  .ret .ret [(I 0)])
theorem t139_eq (v900 : AVal) : afun cx 139 [v900] = t139 v900 := by kernel_rfl
def t140 (v900 v901 : AVal) : IT :=
 .cells 3 v901 fun c0 =>
 .loop 2 [ff, (I 0)] (fun c1 =>
  .op (.len false) [v900] fun v2 =>
  .op (.int .lss) [(g c1 1), v2] fun v3 =>
  .cnd v3 (
   .op (.eaddr 3) [v900, (g c1 1)] fun v4 =>
   .load (some 3) v4 fun v5 =>
   .op (.geq false [.i, .s, .s]) [v5, (.agg [(g c0 0), (g c0 1), (g c0 2)])] fun v6 =>
   .cnd v6 (
    .ret .ret [tt, (g c1 1)]) (
    .op (.int .add) [(g c1 1), (I 1)] fun v7 =>
    .ret .normal [(g c1 0), v7])) (
   .ret (.exit 0) [(g c1 0), (g c1 1)])) (
 fun x c8 => match x with
 | .normal =>
  .ret .ret [ff]
 | .exit i =>
  if i = 0 then
   .ret .ret [ff]
  else
  .fail
 | .ret =>
  .ret .ret [(g c8 0)])
theorem t140_eq (v900 v901 : AVal) : afun cx 140 [v900, v901] = t140 v900 v901 := by kernel_rfl
def t141 (v900 : AVal) : IT :=
 .pcall 116 [v900, (S [97,116,116,114,105,98,117,116,101,78,97,109,101,32,97,116,116,114,105,98,117,116,101,84,121,112,101,32,98,97,115,101,70,114,101,113,117,101,110,99,121,32,98,97,115,101,80,114,111,102,105,108,101,32,99,97,108,99,77,111,100,101,32,99,108,105,112,80,97,116,104,85,110,105,116,115,32,100,105,102,102,117,115,101,67,111,110,115,116,97,110,116,32,101,100,103,101,77,111,100,101,32,102,105,108,116,101,114,85,110,105,116,115,32,103,108,121,112,104,82,101,102,32,103,114,97,100,105,101,110,116,84,114,97,110,115,102,111,114,109,32,103,114,97,100,105,101,110,116,85,110,105,116,115,32,107,101,114,110,101,108,77,97,116,114,105,120,32,107,101,114,110,101,108,85,110,105,116,76,101,110,103,116,104,32,107,101,121,80,111,105,110,116,115,32,107,101,121,83,112,108,105,110,101,115,32,107,101,121,84,105,109,101,115,32,108,101,110,103,116,104,65,100,106,117,115,116,32,108,105,109,105,116,105,110,103,67,111,110,101,65,110,103,108,101,32,109,97,114,107,101,114,72,101,105,103,104,116,32,109,97,114,107,101,114,85,110,105,116,115,32,109,97,114,107,101,114,87,105,100,116,104,32,109,97,115,107,67,111,110,116,101,110,116,85,110,105,116,115,32,109,97,115,107,85,110,105,116,115,32,110,117,109,79,99,116,97,118,101,115,32,112,97,116,104,76,101,110,103,116,104,32,112,97,116,116,101,114,110,67,111,110,116,101,110,116,85,110,105,116,115,32,112,97,116,116,101,114,110,84,114,97,110,115,102,111,114,109,32,112,97,116,116,101,114,110,85,110,105,116,115,32,112,111,105,110,116,115,65,116,88,32,112,111,105,110,116,115,65,116,89,32,112,111,105,110,116,115,65,116,90,32,112,114,101,115,101,114,118,101,65,108,112,104,97,32,112,114,101,115,101,114,118,101,65,115,112,101,99,116,82,97,116,105,111,32,112,114,105,109,105,116,105,118,101,85,110,105,116,115,32,114,101,102,88,32,114,101,102,89,32,114,101,112,101,97,116,67,111,117,110,116,32,114,101,112,101,97,116,68,117,114,32,114,101,113,117,105,114,101,100,69,120,116,101,110,115,105,111,110,115,32,114,101,113,117,105,114,101,100,70,101,97,116,117,114,101,115,32,115,112,101,99,117,108,97,114,67,111,110,115,116,97,110,116,32,115,112,101,99,117,108,97,114,69,120,112,111,110,101,110,116,32,115,112,114,101,97,100,77,101,116,104,111,100,32,115,116,97,114,116,79,102,102,115,101,116,32,115,116,100,68,101,118,105,97,116,105,111,110,32,115,116,105,116,99,104,84,105,108,101,115,32,115,117,114,102,97,99,101,83,99,97,108,101,32,115,121,115,116,101,109,76,97,110,103,117,97,103,101,32,116,97,98,108,101,86,97,108,117,101,115,32,116,97,114,103,101,116,88,32,116,97,114,103,101,116,89,32,116,101,120,116,76,101,110,103,116,104,32,118,105,101,119,66,111,120,32,118,105,101,119,84,97,114,103,101,116,32,120,67,104,97,110,110,101,108,83,101,108,101,99,116,111,114,32,121,67,104,97,110,110,101,108,83,101,108,101,99,116,111,114,32,122,111,111,109,65,110,100,80,97,110])] fun v0 =>
 .ret .ret [v0]
theorem t141_eq (v900 : AVal) : afun cx 141 [v900] = t141 v900 := by kernel_rfl
def t142 (v900 v901 : AVal) : IT :=
 .cells 8 v900 fun c0 =>
 .op (.mkagg [(I 0), (I 0), (S []), ff] [(0, 1), (1, 1), (2, 1), (3, 1)]) [v901, (g c0 3), (g c0 4), (g c0 5)] fun v1 =>
 .cells 4 v1 fun c2 =>
 .ret .ret [(.agg [(g c2 0), (g c2 1), (g c2 2), (g c2 3)])]
theorem t142_eq (v900 v901 : AVal) : afun cx 142 [v900, v901] = t142 v900 v901 := by kernel_rfl
def t143 (v900 v901 : AVal) : IT :=
 .cells 1 v901 fun c0 =>
 .call 40 [v900, (g c0 0)] fun v1 =>
 .op (.int .lss) [v1, (I 0)] fun v2 =>
 .cnd v2 (
  .ret .ret [(I 0)]) (
  .call 101 [v900, (.func (.func 103) [] []), (.func (.func 168) [] [(.rptr [(g c0 0)])])] fun v3 =>
  .ret .ret [v3])
theorem t143_eq (v900 v901 : AVal) : afun cx 143 [v900, v901] = t143 v900 v901 := by kernel_rfl
def t144 (v900 : AVal) : IT :=
 .call 101 [v900, (.func (.func 169) [] []), (.func (.func 103) [] [])] fun v0 =>
 .ret .ret [v0]
theorem t144_eq (v900 : AVal) : afun cx 144 [v900] = t144 v900 := by kernel_rfl
def t145 (v900 : AVal) : IT :=
 .op (.len false) [v900] fun v0 =>
 .op (.int .sub) [v0, (I 1)] fun v1 =>
 .call 170 [v900, v1] fun v2 =>
 .frz v2 fun v3 =>
 .ret .ret [v3]
theorem t145_eq (v900 : AVal) : afun cx 145 [v900] = t145 v900 := by kernel_rfl
def t146 (v900 v901 : AVal) : IT :=
 .op (.len false) [v900] fun v0 =>
 .op (.int .sub) [v0, (I 1)] fun v1 =>
 .loop 2 [.slnil, v1] (fun c2 =>
  .op (.int .geq) [(g c2 1), (I 0)] fun v3 =>
  .cnd v3 (
   .op (.eaddr 4) [v900, (g c2 1)] fun v4 =>
   .load (some 4) v4 fun v5 =>
   .call 35 [v5, v901] fun v6 =>
   .cnd v6 (
    .call 170 [v900, (g c2 1)] fun v7 =>
    .ret .ret [v7, (g c2 1)]) (
    .op (.int .sub) [(g c2 1), (I 1)] fun v8 =>
    .ret .normal [(g c2 0), v8])) (
   .ret (.exit 0) [(g c2 0), (g c2 1)])) (
 fun x c9 => match x with
 | .normal =>
  .call 170 [v900, (I 1)] fun v10 =>
  .frz v10 fun v11 =>
  .ret .ret [v11]
 | .exit i =>
  if i = 0 then
   .call 170 [v900, (I 1)] fun v12 =>
   .frz v12 fun v13 =>
   .ret .ret [v13]
  else
  .fail
 | .ret =>
  .frz (g c9 0) fun v14 =>
  .ret .ret [v14])
theorem t146_eq (v900 v901 : AVal) : afun cx 146 [v900, v901] = t146 v900 v901 := by kernel_rfl
def t147 (v900 v901 : AVal) : IT :=
 .call 49 [v900, v901] fun v0 =>
 .op (.int .lss) [v0, (I 0)] fun v1 =>
 .cnd v1 (
  .op (.len false) [v900] fun v2 =>
  .call 170 [v900, v2] fun v3 =>
  .frz v3 fun v4 =>
  .ret .ret [v4]) (
  .call 170 [v900, v0] fun v5 =>
  .frz v5 fun v6 =>
  .ret .ret [v6])
theorem t147_eq (v900 v901 : AVal) : afun cx 147 [v900, v901] = t147 v900 v901 := by kernel_rfl
def t148 (v900 v901 v902 : AVal) : IT :=
 .op (.len false) [v900] fun v0 =>
 .loop 2 [v0] (fun c1 =>
  .op (.int .gtr) [(g c1 0), (I 1)] fun v2 =>
  .cnd v2 (
   .op (.int .sub) [(g c1 0), (I 1)] fun v3 =>
   .op (.eaddr 4) [v900, v3] fun v4 =>
   .load (some 4) v4 fun v5 =>
   .cells 4 v5 fun c6 =>
   .op (.int .neq) [(g c6 1), (I 1)] fun v7 =>
   .cnd v7 (
    .ret (.exit 0) [(g c1 0)]) (
    .op (.un .not) [v902] fun v8 =>
    .cnd v8 (
     .pcall 61 [(g c6 2)] fun v9 =>
     .op (.un .not) [v9] fun v10 =>
     .cnd v10 (
      .ret (.exit 0) [(g c1 0)]) (
      .op (.str .eql) [(g c6 2), v901] fun v11 =>
      .cnd v11 (
       .ret (.exit 0) [(g c1 0)]) (
       .cnd v902 (
        .pcall 63 [(g c6 2)] fun v12 =>
        .op (.un .not) [v12] fun v13 =>
        .cnd v13 (
         .ret (.exit 0) [(g c1 0)]) (
         .op (.int .sub) [(g c1 0), (I 1)] fun v14 =>
         .ret .normal [v14])) (
        .op (.int .sub) [(g c1 0), (I 1)] fun v15 =>
        .ret .normal [v15])))) (
     .cnd v902 (
      .pcall 63 [(g c6 2)] fun v16 =>
      .op (.un .not) [v16] fun v17 =>
      .cnd v17 (
       .ret (.exit 0) [(g c1 0)]) (
       .op (.int .sub) [(g c1 0), (I 1)] fun v18 =>
       .ret .normal [v18])) (
      .op (.int .sub) [(g c1 0), (I 1)] fun v19 =>
      .ret .normal [v19])))) (
   .ret (.exit 0) [(g c1 0)])) (
 fun x c20 => match x with
 | .normal =>
  .call 170 [v900, (g c20 0)] fun v21 =>
  .frz v21 fun v22 =>
  .ret .ret [v22]
 | .exit i =>
  if i = 0 then
   .call 170 [v900, (g c20 0)] fun v23 =>
   .frz v23 fun v24 =>
   .ret .ret [v24]
  else
  .fail
 | .ret =>
  .frz .slnil fun v25 =>
  .ret .ret [v25])
theorem t148_eq (v900 v901 v902 : AVal) : afun cx 148 [v900, v901, v902] = t148 v900 v901 v902 := by kernel_rfl
def t149 (v900 v901 : AVal) : IT :=
 .op (.len false) [v900] fun v0 =>
 .op (.int .sub) [v0, (I 1)] fun v1 =>
 .loop 2 [.slnil, v1] (fun c2 =>
  .op (.int .geq) [(g c2 1), (I 0)] fun v3 =>
  .cnd v3 (
   .op (.eaddr 4) [v900, (g c2 1)] fun v4 =>
   .load (some 4) v4 fun v5 =>
   .call 35 [v5, v901] fun v6 =>
   .cnd v6 (
    .op (.int .add) [(g c2 1), (I 1)] fun v7 =>
    .call 170 [v900, v7] fun v8 =>
    .ret .ret [v8, (g c2 1)]) (
    .op (.int .sub) [(g c2 1), (I 1)] fun v9 =>
    .ret .normal [(g c2 0), v9])) (
   .ret (.exit 0) [(g c2 0), (g c2 1)])) (
 fun x c10 => match x with
 | .normal =>
  .call 170 [v900, (I 1)] fun v11 =>
  .frz v11 fun v12 =>
  .ret .ret [v12]
 | .exit i =>
  if i = 0 then
   .call 170 [v900, (I 1)] fun v13 =>
   .frz v13 fun v14 =>
   .ret .ret [v14]
  else
  .fail
 | .ret =>
  .frz (g c10 0) fun v15 =>
  .ret .ret [v15])
theorem t149_eq (v900 v901 : AVal) : afun cx 149 [v900, v901] = t149 v900 v901 := by kernel_rfl
def t150 (v900 v901 : AVal) : IT :=
 .call 49 [v900, v901] fun v0 =>
 .op (.int .lss) [v0, (I 1)] fun v1 =>
 .cnd v1 (
  .op (.len false) [v900] fun v2 =>
  .call 170 [v900, v2] fun v3 =>
  .frz v3 fun v4 =>
  .frz ff fun v5 =>
  .ret .ret [(.tuple [v4, v5])]) (
  .op (.int .add) [v0, (I 1)] fun v6 =>
  .op (.slc 4 false true false) [v900, v6] fun v7 =>
  .call 170 [v900, v0] fun v8 =>
  .grow 4 40 v8 v7 fun v9 =>
  .frz v9 fun v10 =>
  .frz tt fun v11 =>
  .ret .ret [(.tuple [v10, v11])])
theorem t150_eq (v900 v901 : AVal) : afun cx 150 [v900, v901] = t150 v900 v901 := by kernel_rfl
def t151 (v900 v901 v902 : AVal) : IT :=
 .cells 4 v902 fun c0 =>
 .call 49 [v900, v901] fun v1 =>
 .op (.len false) [v900] fun v2 =>
 .call 170 [v900, v2] fun v3 =>
 .op (.int .lss) [v1, (I 1)] fun v4 =>
 .cnd v4 (
  .frz v3 fun v5 =>
  .frz ff fun v6 =>
  .ret .ret [(.tuple [v5, v6])]) (
  .op (.eaddr 4) [v3, v1] fun v7 =>
  .store 4 v7 (.agg [(g c0 0), (g c0 1), (g c0 2), (g c0 3)]) (
  .frz v3 fun v8 =>
  .frz tt fun v9 =>
  .ret .ret [(.tuple [v8, v9])]))
theorem t151_eq (v900 v901 v902 : AVal) : afun cx 151 [v900, v901, v902] = t151 v900 v901 v902 := by kernel_rfl
def t152 (v900 v901 v902 : AVal) : IT :=
 .cells 4 v901 fun c0 =>
 .op (.int .lss) [v902, (I 1)] fun v1 =>
 .cnd v1 (
  .op (.len false) [v900] fun v2 =>
  .op (.int .gtr) [(I 1), v2] fun v3 =>
  .cnd v3 (
   .op (.len false) [v900] fun v4 =>
   .op (.slc 4 false false true) [v900, v4] fun v5 =>
   .op (.append 4 40) [.slnil, v5] fun v6 =>
   .op (.mksl 4) [(.agg [(g c0 0), (g c0 1), (g c0 2), (g c0 3)])] fun v7 =>
   .op (.append 4 40) [v6, v7] fun v8 =>
   .op (.slc 4 false true false) [v900, v4] fun v9 =>
   .op (.append 4 40) [v8, v9] fun v10 =>
   .ret .ret [v10]) (
   .op (.slc 4 false false true) [v900, (I 1)] fun v11 =>
   .op (.append 4 40) [.slnil, v11] fun v12 =>
   .op (.mksl 4) [(.agg [(g c0 0), (g c0 1), (g c0 2), (g c0 3)])] fun v13 =>
   .op (.append 4 40) [v12, v13] fun v14 =>
   .op (.slc 4 false true false) [v900, (I 1)] fun v15 =>
   .op (.append 4 40) [v14, v15] fun v16 =>
   .ret .ret [v16])) (
  .op (.len false) [v900] fun v17 =>
  .op (.int .gtr) [v902, v17] fun v18 =>
  .cnd v18 (
   .op (.len false) [v900] fun v19 =>
   .op (.slc 4 false false true) [v900, v19] fun v20 =>
   .op (.append 4 40) [.slnil, v20] fun v21 =>
   .op (.mksl 4) [(.agg [(g c0 0), (g c0 1), (g c0 2), (g c0 3)])] fun v22 =>
   .op (.append 4 40) [v21, v22] fun v23 =>
   .op (.slc 4 false true false) [v900, v19] fun v24 =>
   .op (.append 4 40) [v23, v24] fun v25 =>
   .ret .ret [v25]) (
   .op (.slc 4 false false true) [v900, v902] fun v26 =>
   .op (.append 4 40) [.slnil, v26] fun v27 =>
   .op (.mksl 4) [(.agg [(g c0 0), (g c0 1), (g c0 2), (g c0 3)])] fun v28 =>
   .op (.append 4 40) [v27, v28] fun v29 =>
   .op (.slc 4 false true false) [v900, v902] fun v30 =>
   .op (.append 4 40) [v29, v30] fun v31 =>
   .ret .ret [v31]))
theorem t152_eq (v900 v901 v902 : AVal) : afun cx 152 [v900, v901, v902] = t152 v900 v901 v902 := by kernel_rfl
def t153 (v900 : AVal) : IT :=
 .cells 1 v900 fun c0 =>
 .op (.int .eql) [(g c0 0), (I 4)] fun v1 =>
 .cnd v1 (
  .ret .ret [(.func (.func 171) [] [])]) (
  .op (.int .eql) [(g c0 0), (I 5)] fun v2 =>
  .cnd v2 (
   .ret .ret [(.func (.func 172) [] [])]) (
   .ret .ret [(.func (.func 173) [] [(.rptr [(g c0 0)])])]))
theorem t153_eq (v900 : AVal) : afun cx 153 [v900] = t153 v900 := by kernel_rfl
def t154 (v900 v901 v902 : AVal) : IT :=
 .cells 4 v900 fun c0 =>
 .load none v901 fun v1 =>
 .callv v1 [(.agg [(g c0 0), (g c0 1), (g c0 2), (g c0 3)])] fun v2 =>
 .cnd v2 (
  .ret .ret [tt]) (
  .load none v902 fun v3 =>
  .callv v3 [(.agg [(g c0 0), (g c0 1), (g c0 2), (g c0 3)])] fun v4 =>
  .ret .ret [v4])
theorem t154_eq (v900 v901 v902 : AVal) : afun cx 154 [v900, v901, v902] = t154 v900 v901 v902 := by kernel_rfl
def t155 (v900 v901 : AVal) : IT :=
 .call 174 [v900, v901] fun v0 =>
 .op (.int .geq) [v0, (I 0)] fun v1 =>
 .ret .ret [v1]
theorem t155_eq (v900 v901 : AVal) : afun cx 155 [v900, v901] = t155 v900 v901 := by kernel_rfl
def t156 (v900 v901 : AVal) : IT :=
 .cells 4 v900 fun c0 =>
 .op (.int .eql) [(g c0 1), (I 1)] fun v1 =>
 .op (.int .eql) [v901, (I 4)] fun v2 =>
 .cnd v2 (
  .cnd v1 (
   .pcall 109 [(S [104,116,109,108,32,116,97,98,108,101,32,116,101,109,112,108,97,116,101]), (g c0 2)] fun v3 =>
   .ret .ret [v3]) (
   .ret .ret [ff])) (
  .op (.int .eql) [v901, (I 5)] fun v4 =>
  .cnd v4 (
   .op (.un .not) [v1] fun v5 =>
   .cnd v5 (
    .ret .ret [tt]) (
    .pcall 109 [(S [111,112,116,103,114,111,117,112,32,111,112,116,105,111,110]), (g c0 2)] fun v6 =>
    .op (.un .not) [v6] fun v7 =>
    .ret .ret [v7])) (
   .cnd v1 (
    .op (.int .eql) [v901, (I 2)] fun v8 =>
    .cnd v8 (
     .pcall 109 [(S [111,108,32,117,108]), (g c0 2)] fun v9 =>
     .cnd v9 (
      .ret .ret [tt]) (
      .cnd v1 (
       .op (.int .eql) [v901, (I 3)] fun v10 =>
       .cnd v10 (
        .op (.str .eql) [(g c0 2), (S [98,117,116,116,111,110])] fun v11 =>
        .cnd v11 (
         .ret .ret [tt]) (
         .cnd v1 (
          .pcall 109 [(S [97,112,112,108,101,116,32,99,97,112,116,105,111,110,32,104,116,109,108,32,109,97,114,113,117,101,101,32,111,98,106,101,99,116,32,116,97,98,108,101,32,116,100,32,116,101,109,112,108,97,116,101,32,116,104]), (g c0 2)] fun v12 =>
          .ret .ret [v12]) (
          .pcall 43 [(g c0 1), (g c0 2)] fun v13 =>
          .ret .ret [v13]))) (
        .cnd v1 (
         .pcall 109 [(S [97,112,112,108,101,116,32,99,97,112,116,105,111,110,32,104,116,109,108,32,109,97,114,113,117,101,101,32,111,98,106,101,99,116,32,116,97,98,108,101,32,116,100,32,116,101,109,112,108,97,116,101,32,116,104]), (g c0 2)] fun v14 =>
         .ret .ret [v14]) (
         .pcall 43 [(g c0 1), (g c0 2)] fun v15 =>
         .ret .ret [v15]))) (
       .cnd v1 (
        .pcall 109 [(S [97,112,112,108,101,116,32,99,97,112,116,105,111,110,32,104,116,109,108,32,109,97,114,113,117,101,101,32,111,98,106,101,99,116,32,116,97,98,108,101,32,116,100,32,116,101,109,112,108,97,116,101,32,116,104]), (g c0 2)] fun v16 =>
        .ret .ret [v16]) (
        .pcall 43 [(g c0 1), (g c0 2)] fun v17 =>
        .ret .ret [v17])))) (
     .cnd v1 (
      .op (.int .eql) [v901, (I 3)] fun v18 =>
      .cnd v18 (
       .op (.str .eql) [(g c0 2), (S [98,117,116,116,111,110])] fun v19 =>
       .cnd v19 (
        .ret .ret [tt]) (
        .cnd v1 (
         .pcall 109 [(S [97,112,112,108,101,116,32,99,97,112,116,105,111,110,32,104,116,109,108,32,109,97,114,113,117,101,101,32,111,98,106,101,99,116,32,116,97,98,108,101,32,116,100,32,116,101,109,112,108,97,116,101,32,116,104]), (g c0 2)] fun v20 =>
         .ret .ret [v20]) (
         .pcall 43 [(g c0 1), (g c0 2)] fun v21 =>
         .ret .ret [v21]))) (
       .cnd v1 (
        .pcall 109 [(S [97,112,112,108,101,116,32,99,97,112,116,105,111,110,32,104,116,109,108,32,109,97,114,113,117,101,101,32,111,98,106,101,99,116,32,116,97,98,108,101,32,116,100,32,116,101,109,112,108,97,116,101,32,116,104]), (g c0 2)] fun v22 =>
        .ret .ret [v22]) (
        .pcall 43 [(g c0 1), (g c0 2)] fun v23 =>
        .ret .ret [v23]))) (
      .cnd v1 (
       .pcall 109 [(S [97,112,112,108,101,116,32,99,97,112,116,105,111,110,32,104,116,109,108,32,109,97,114,113,117,101,101,32,111,98,106,101,99,116,32,116,97,98,108,101,32,116,100,32,116,101,109,112,108,97,116,101,32,116,104]), (g c0 2)] fun v24 =>
       .ret .ret [v24]) (
       .pcall 43 [(g c0 1), (g c0 2)] fun v25 =>
       .ret .ret [v25])))) (
    .cnd v1 (
     .op (.int .eql) [v901, (I 3)] fun v26 =>
     .cnd v26 (
      .op (.str .eql) [(g c0 2), (S [98,117,116,116,111,110])] fun v27 =>
      .cnd v27 (
       .ret .ret [tt]) (
       .cnd v1 (
        .pcall 109 [(S [97,112,112,108,101,116,32,99,97,112,116,105,111,110,32,104,116,109,108,32,109,97,114,113,117,101,101,32,111,98,106,101,99,116,32,116,97,98,108,101,32,116,100,32,116,101,109,112,108,97,116,101,32,116,104]), (g c0 2)] fun v28 =>
        .ret .ret [v28]) (
        .pcall 43 [(g c0 1), (g c0 2)] fun v29 =>
        .ret .ret [v29]))) (
      .cnd v1 (
       .pcall 109 [(S [97,112,112,108,101,116,32,99,97,112,116,105,111,110,32,104,116,109,108,32,109,97,114,113,117,101,101,32,111,98,106,101,99,116,32,116,97,98,108,101,32,116,100,32,116,101,109,112,108,97,116,101,32,116,104]), (g c0 2)] fun v30 =>
       .ret .ret [v30]) (
       .pcall 43 [(g c0 1), (g c0 2)] fun v31 =>
       .ret .ret [v31]))) (
     .cnd v1 (
      .pcall 109 [(S [97,112,112,108,101,116,32,99,97,112,116,105,111,110,32,104,116,109,108,32,109,97,114,113,117,101,101,32,111,98,106,101,99,116,32,116,97,98,108,101,32,116,100,32,116,101,109,112,108,97,116,101,32,116,104]), (g c0 2)] fun v32 =>
      .ret .ret [v32]) (
      .pcall 43 [(g c0 1), (g c0 2)] fun v33 =>
      .ret .ret [v33])))))
theorem t156_eq (v900 v901 : AVal) : afun cx 156 [v900, v901] = t156 v900 v901 := by kernel_rfl
def t157 (v900 v901 : AVal) : IT :=
 .loop 2 [ff, (I 0)] (fun c0 =>
  .op (.len true) [v900] fun v1 =>
  .op (.int .lss) [(g c0 1), v1] fun v2 =>
  .cnd v2 (
   .op .sidx [v900, (g c0 1)] fun v3 =>
   .op (.int .eql) [v3, v901] fun v4 =>
   .cnd v4 (
    .ret .ret [tt, (g c0 1)]) (
    .op (.int .add) [(g c0 1), (I 1)] fun v5 =>
    .ret .normal [(g c0 0), v5])) (
   .ret (.exit 0) [(g c0 0), (g c0 1)])) (
 fun x c6 => match x with
 | .normal =>
  .ret .ret [ff]
 | .exit i =>
  if i = 0 then
   .ret .ret [ff]
  else
  .fail
 | .ret =>
  .ret .ret [(g c6 0)])
theorem t157_eq (v900 v901 : AVal) : afun cx 157 [v900, v901] = t157 v900 v901 := by kernel_rfl
def t158 (v900 : AVal) : IT :=
 .bytesObj v900 fun v0 =>
 .op (.len false) [v0] fun v1 =>
 .loop 3 [(I 0)] (fun c2 =>
  .op (.int .lss) [(g c2 0), v1] fun v3 =>
  .cnd v3 (
   .op (.eaddr 1) [v0, (g c2 0)] fun v4 =>
   .load none v4 fun v5 =>
   .op (.conv .i32) [v5] fun v6 =>
   .pcall 175 [v6] fun v7 =>
   .cnd v7 (
    .op (.int .sub) [v5, (.int .u8 65)] fun v8 =>
    .op (.int .add) [v8, (.int .u8 97)] fun v9 =>
    .op (.eaddr 1) [v0, (g c2 0)] fun v10 =>
    .store 1 v10 v9 (
    .op (.int .add) [(g c2 0), (I 1)] fun v11 =>
    .ret .normal [v11])) (
    .op (.int .add) [(g c2 0), (I 1)] fun v12 =>
    .ret .normal [v12])) (
   .ret (.exit 0) [(g c2 0)])) (
 fun x c13 => match x with
 | .normal =>
  .frz v0 fun v14 =>
  .op .b2s [v14] fun v15 =>
  .ret .ret [v15]
 | .exit i =>
  if i = 0 then
   .frz v0 fun v16 =>
   .op .b2s [v16] fun v17 =>
   .ret .ret [v17]
  else
  .fail
 | .ret =>
  .ret .ret [(S [])])
theorem t158_eq (v900 : AVal) : afun cx 158 [v900] = t158 v900 := by kernel_rfl
def t159 (v900 : AVal) : IT :=
 .op (.int .geq) [v900, (.int .u8 65)] fun v0 =>
 .cnd v0 (
  .op (.int .leq) [v900, (.int .u8 90)] fun v1 =>
  .ret .ret [v1]) (
  .ret .ret [ff])
theorem t159_eq (v900 : AVal) : afun cx 159 [v900] = t159 v900 := by kernel_rfl
def t160 (v900 : AVal) : IT :=
 .loop 5 [(I 0), (I 1), (.int .u8 0), (I 0)] (fun c0 =>
  .op (.len true) [v900] fun v1 =>
  .op (.int .lss) [(g c0 3), v1] fun v2 =>
  .cnd v2 (
   .op .sidx [v900, (g c0 3)] fun v3 =>
   .op (.int .or) [(g c0 2), v3] fun v4 =>
   .op (.aaddr 256 1) [(.rptr spaceCells), v3] fun v5 =>
   .load none v5 fun v6 =>
   .op (.conv .i64) [v6] fun v7 =>
   .op (.un .xor) [v7] fun v8 =>
   .op (.int .and) [(g c0 1), v8] fun v9 =>
   .op (.int .add) [(g c0 0), v9] fun v10 =>
   .op (.int .add) [(g c0 3), (I 1)] fun v11 =>
   .ret .normal [v10, v7, v4, v11]) (
   .ret (.exit 0) [(g c0 0), (g c0 1), (g c0 2), (g c0 3)])) (
 fun x c12 => match x with
 | .normal =>
  .op (.int .geq) [(g c12 2), (.int .u8 128)] fun v13 =>
  .cnd v13 (
   .call 176 [v900, (.func (.func 177) [] [])] fun v14 =>
   .frz v14 fun v15 =>
   .ret .ret [v15]) (
   .make 1 16 [(S [])] (g c12 0) (g c12 0) fun v16 =>
   .loop 18 [(I 0)] (fun c17 =>
    .op (.len true) [v900] fun v18 =>
    .op (.int .lss) [(g c17 0), v18] fun v19 =>
    .cnd v19 (
     .op .sidx [v900, (g c17 0)] fun v20 =>
     .op (.aaddr 256 1) [(.rptr spaceCells), v20] fun v21 =>
     .load none v21 fun v22 =>
     .op (.int .neq) [v22, (.int .u8 0)] fun v23 =>
     .cnd v23 (
      .op (.int .add) [(g c17 0), (I 1)] fun v24 =>
      .ret .normal [v24]) (
      .ret (.exit 2) [(g c17 0)])) (
     .ret (.exit 2) [(g c17 0)])) (
   fun x c25 => match x with
   | .normal =>
    .loop 21 [(I 0), (g c25 0), (g c25 0)] (fun c26 =>
     .op (.len true) [v900] fun v27 =>
     .op (.int .lss) [(g c26 2), v27] fun v28 =>
     .cnd v28 (
      .op .sidx [v900, (g c26 2)] fun v29 =>
      .op (.aaddr 256 1) [(.rptr spaceCells), v29] fun v30 =>
      .load none v30 fun v31 =>
      .op (.int .eql) [v31, (.int .u8 0)] fun v32 =>
      .cnd v32 (
       .op (.int .add) [(g c26 2), (I 1)] fun v33 =>
       .ret .normal [(g c26 0), (g c26 1), v33]) (
       .op (.slc 0 true true true) [v900, (g c26 1), (g c26 2)] fun v34 =>
       .op (.eaddr 1) [v16, (g c26 0)] fun v35 =>
       .store 1 v35 v34 (
       .op (.int .add) [(g c26 0), (I 1)] fun v36 =>
       .op (.int .add) [(g c26 2), (I 1)] fun v37 =>
       .loop 27 [v37] (fun c38 =>
        .op (.len true) [v900] fun v39 =>
        .op (.int .lss) [(g c38 0), v39] fun v40 =>
        .cnd v40 (
         .op .sidx [v900, (g c38 0)] fun v41 =>
         .op (.aaddr 256 1) [(.rptr spaceCells), v41] fun v42 =>
         .load none v42 fun v43 =>
         .op (.int .neq) [v43, (.int .u8 0)] fun v44 =>
         .cnd v44 (
          .op (.int .add) [(g c38 0), (I 1)] fun v45 =>
          .ret .normal [v45]) (
          .ret (.exit 6) [(g c38 0)])) (
         .ret (.exit 6) [(g c38 0)])) (
       fun x c46 => match x with
       | .normal =>
        .ret .normal [v36, (g c46 0), (g c46 0)]
       | .exit i =>
        if i = 6 then
         .ret .normal [v36, (g c46 0), (g c46 0)]
        else
        if i = 5 then
         .ret .normal [v36, (g c26 1), (g c46 0)]
        else
        .ret (.exit i) [v36, (g c26 1), (g c46 0)]
       | .ret =>
        .ret .ret [v36, (g c26 1), (g c46 0)])))) (
      .ret (.exit 4) [(g c26 0), (g c26 1), (g c26 2)])) (
    fun x c47 => match x with
    | .normal =>
     .op (.len true) [v900] fun v48 =>
     .op (.int .lss) [(g c47 1), v48] fun v49 =>
     .cnd v49 (
      .op (.slc 0 true true false) [v900, (g c47 1)] fun v50 =>
      .op (.eaddr 1) [v16, (g c47 0)] fun v51 =>
      .store 1 v51 v50 (
      .frz v16 fun v52 =>
      .ret .ret [v52])) (
      .frz v16 fun v53 =>
      .ret .ret [v53])
    | .exit i =>
     if i = 4 then
      .op (.len true) [v900] fun v54 =>
      .op (.int .lss) [(g c47 1), v54] fun v55 =>
      .cnd v55 (
       .op (.slc 0 true true false) [v900, (g c47 1)] fun v56 =>
       .op (.eaddr 1) [v16, (g c47 0)] fun v57 =>
       .store 1 v57 v56 (
       .frz v16 fun v58 =>
       .ret .ret [v58])) (
       .frz v16 fun v59 =>
       .ret .ret [v59])
     else
     .fail
    | .ret =>
     .frz .slnil fun v60 =>
     .ret .ret [v60])
   | .exit i =>
    if i = 2 then
     .loop 21 [(I 0), (g c25 0), (g c25 0)] (fun c61 =>
      .op (.len true) [v900] fun v62 =>
      .op (.int .lss) [(g c61 2), v62] fun v63 =>
      .cnd v63 (
       .op .sidx [v900, (g c61 2)] fun v64 =>
       .op (.aaddr 256 1) [(.rptr spaceCells), v64] fun v65 =>
       .load none v65 fun v66 =>
       .op (.int .eql) [v66, (.int .u8 0)] fun v67 =>
       .cnd v67 (
        .op (.int .add) [(g c61 2), (I 1)] fun v68 =>
        .ret .normal [(g c61 0), (g c61 1), v68]) (
        .op (.slc 0 true true true) [v900, (g c61 1), (g c61 2)] fun v69 =>
        .op (.eaddr 1) [v16, (g c61 0)] fun v70 =>
        .store 1 v70 v69 (
        .op (.int .add) [(g c61 0), (I 1)] fun v71 =>
        .op (.int .add) [(g c61 2), (I 1)] fun v72 =>
        .loop 27 [v72] (fun c73 =>
         .op (.len true) [v900] fun v74 =>
         .op (.int .lss) [(g c73 0), v74] fun v75 =>
         .cnd v75 (
          .op .sidx [v900, (g c73 0)] fun v76 =>
          .op (.aaddr 256 1) [(.rptr spaceCells), v76] fun v77 =>
          .load none v77 fun v78 =>
          .op (.int .neq) [v78, (.int .u8 0)] fun v79 =>
          .cnd v79 (
           .op (.int .add) [(g c73 0), (I 1)] fun v80 =>
           .ret .normal [v80]) (
           .ret (.exit 6) [(g c73 0)])) (
          .ret (.exit 6) [(g c73 0)])) (
        fun x c81 => match x with
        | .normal =>
         .ret .normal [v71, (g c81 0), (g c81 0)]
        | .exit i =>
         if i = 6 then
          .ret .normal [v71, (g c81 0), (g c81 0)]
         else
         if i = 5 then
          .ret .normal [v71, (g c61 1), (g c81 0)]
         else
         .ret (.exit i) [v71, (g c61 1), (g c81 0)]
        | .ret =>
         .ret .ret [v71, (g c61 1), (g c81 0)])))) (
       .ret (.exit 4) [(g c61 0), (g c61 1), (g c61 2)])) (
     fun x c82 => match x with
     | .normal =>
      .op (.len true) [v900] fun v83 =>
      .op (.int .lss) [(g c82 1), v83] fun v84 =>
      .cnd v84 (
       .op (.slc 0 true true false) [v900, (g c82 1)] fun v85 =>
       .op (.eaddr 1) [v16, (g c82 0)] fun v86 =>
       .store 1 v86 v85 (
       .frz v16 fun v87 =>
       .ret .ret [v87])) (
       .frz v16 fun v88 =>
       .ret .ret [v88])
     | .exit i =>
      if i = 4 then
       .op (.len true) [v900] fun v89 =>
       .op (.int .lss) [(g c82 1), v89] fun v90 =>
       .cnd v90 (
        .op (.slc 0 true true false) [v900, (g c82 1)] fun v91 =>
        .op (.eaddr 1) [v16, (g c82 0)] fun v92 =>
        .store 1 v92 v91 (
        .frz v16 fun v93 =>
        .ret .ret [v93])) (
        .frz v16 fun v94 =>
        .ret .ret [v94])
      else
      .fail
     | .ret =>
      .frz .slnil fun v95 =>
      .ret .ret [v95])
    else
    .fail
   | .ret =>
    .frz .slnil fun v96 =>
    .ret .ret [v96]))
 | .exit i =>
  if i = 0 then
   .op (.int .geq) [(g c12 2), (.int .u8 128)] fun v97 =>
   .cnd v97 (
    .call 176 [v900, (.func (.func 177) [] [])] fun v98 =>
    .frz v98 fun v99 =>
    .ret .ret [v99]) (
    .make 1 16 [(S [])] (g c12 0) (g c12 0) fun v100 =>
    .loop 18 [(I 0)] (fun c101 =>
     .op (.len true) [v900] fun v102 =>
     .op (.int .lss) [(g c101 0), v102] fun v103 =>
     .cnd v103 (
      .op .sidx [v900, (g c101 0)] fun v104 =>
      .op (.aaddr 256 1) [(.rptr spaceCells), v104] fun v105 =>
      .load none v105 fun v106 =>
      .op (.int .neq) [v106, (.int .u8 0)] fun v107 =>
      .cnd v107 (
       .op (.int .add) [(g c101 0), (I 1)] fun v108 =>
       .ret .normal [v108]) (
       .ret (.exit 2) [(g c101 0)])) (
      .ret (.exit 2) [(g c101 0)])) (
    fun x c109 => match x with
    | .normal =>
     .loop 21 [(I 0), (g c109 0), (g c109 0)] (fun c110 =>
      .op (.len true) [v900] fun v111 =>
      .op (.int .lss) [(g c110 2), v111] fun v112 =>
      .cnd v112 (
       .op .sidx [v900, (g c110 2)] fun v113 =>
       .op (.aaddr 256 1) [(.rptr spaceCells), v113] fun v114 =>
       .load none v114 fun v115 =>
       .op (.int .eql) [v115, (.int .u8 0)] fun v116 =>
       .cnd v116 (
        .op (.int .add) [(g c110 2), (I 1)] fun v117 =>
        .ret .normal [(g c110 0), (g c110 1), v117]) (
        .op (.slc 0 true true true) [v900, (g c110 1), (g c110 2)] fun v118 =>
        .op (.eaddr 1) [v100, (g c110 0)] fun v119 =>
        .store 1 v119 v118 (
        .op (.int .add) [(g c110 0), (I 1)] fun v120 =>
        .op (.int .add) [(g c110 2), (I 1)] fun v121 =>
        .loop 27 [v121] (fun c122 =>
         .op (.len true) [v900] fun v123 =>
         .op (.int .lss) [(g c122 0), v123] fun v124 =>
         .cnd v124 (
          .op .sidx [v900, (g c122 0)] fun v125 =>
          .op (.aaddr 256 1) [(.rptr spaceCells), v125] fun v126 =>
          .load none v126 fun v127 =>
          .op (.int .neq) [v127, (.int .u8 0)] fun v128 =>
          .cnd v128 (
           .op (.int .add) [(g c122 0), (I 1)] fun v129 =>
           .ret .normal [v129]) (
           .ret (.exit 6) [(g c122 0)])) (
          .ret (.exit 6) [(g c122 0)])) (
        fun x c130 => match x with
        | .normal =>
         .ret .normal [v120, (g c130 0), (g c130 0)]
        | .exit i =>
         if i = 6 then
          .ret .normal [v120, (g c130 0), (g c130 0)]
         else
         if i = 5 then
          .ret .normal [v120, (g c110 1), (g c130 0)]
         else
         .ret (.exit i) [v120, (g c110 1), (g c130 0)]
        | .ret =>
         .ret .ret [v120, (g c110 1), (g c130 0)])))) (
       .ret (.exit 4) [(g c110 0), (g c110 1), (g c110 2)])) (
     fun x c131 => match x with
     | .normal =>
      .op (.len true) [v900] fun v132 =>
      .op (.int .lss) [(g c131 1), v132] fun v133 =>
      .cnd v133 (
       .op (.slc 0 true true false) [v900, (g c131 1)] fun v134 =>
       .op (.eaddr 1) [v100, (g c131 0)] fun v135 =>
       .store 1 v135 v134 (
       .frz v100 fun v136 =>
       .ret .ret [v136])) (
       .frz v100 fun v137 =>
       .ret .ret [v137])
     | .exit i =>
      if i = 4 then
       .op (.len true) [v900] fun v138 =>
       .op (.int .lss) [(g c131 1), v138] fun v139 =>
       .cnd v139 (
        .op (.slc 0 true true false) [v900, (g c131 1)] fun v140 =>
        .op (.eaddr 1) [v100, (g c131 0)] fun v141 =>
        .store 1 v141 v140 (
        .frz v100 fun v142 =>
        .ret .ret [v142])) (
        .frz v100 fun v143 =>
        .ret .ret [v143])
      else
      .fail
     | .ret =>
      .frz .slnil fun v144 =>
      .ret .ret [v144])
    | .exit i =>
     if i = 2 then
      .loop 21 [(I 0), (g c109 0), (g c109 0)] (fun c145 =>
       .op (.len true) [v900] fun v146 =>
       .op (.int .lss) [(g c145 2), v146] fun v147 =>
       .cnd v147 (
        .op .sidx [v900, (g c145 2)] fun v148 =>
        .op (.aaddr 256 1) [(.rptr spaceCells), v148] fun v149 =>
        .load none v149 fun v150 =>
        .op (.int .eql) [v150, (.int .u8 0)] fun v151 =>
        .cnd v151 (
         .op (.int .add) [(g c145 2), (I 1)] fun v152 =>
         .ret .normal [(g c145 0), (g c145 1), v152]) (
         .op (.slc 0 true true true) [v900, (g c145 1), (g c145 2)] fun v153 =>
         .op (.eaddr 1) [v100, (g c145 0)] fun v154 =>
         .store 1 v154 v153 (
         .op (.int .add) [(g c145 0), (I 1)] fun v155 =>
         .op (.int .add) [(g c145 2), (I 1)] fun v156 =>
         .loop 27 [v156] (fun c157 =>
          .op (.len true) [v900] fun v158 =>
          .op (.int .lss) [(g c157 0), v158] fun v159 =>
          .cnd v159 (
           .op .sidx [v900, (g c157 0)] fun v160 =>
           .op (.aaddr 256 1) [(.rptr spaceCells), v160] fun v161 =>
           .load none v161 fun v162 =>
           .op (.int .neq) [v162, (.int .u8 0)] fun v163 =>
           .cnd v163 (
            .op (.int .add) [(g c157 0), (I 1)] fun v164 =>
            .ret .normal [v164]) (
            .ret (.exit 6) [(g c157 0)])) (
           .ret (.exit 6) [(g c157 0)])) (
         fun x c165 => match x with
         | .normal =>
          .ret .normal [v155, (g c165 0), (g c165 0)]
         | .exit i =>
          if i = 6 then
           .ret .normal [v155, (g c165 0), (g c165 0)]
          else
          if i = 5 then
           .ret .normal [v155, (g c145 1), (g c165 0)]
          else
          .ret (.exit i) [v155, (g c145 1), (g c165 0)]
         | .ret =>
          .ret .ret [v155, (g c145 1), (g c165 0)])))) (
        .ret (.exit 4) [(g c145 0), (g c145 1), (g c145 2)])) (
      fun x c166 => match x with
      | .normal =>
       .op (.len true) [v900] fun v167 =>
       .op (.int .lss) [(g c166 1), v167] fun v168 =>
       .cnd v168 (
        .op (.slc 0 true true false) [v900, (g c166 1)] fun v169 =>
        .op (.eaddr 1) [v100, (g c166 0)] fun v170 =>
        .store 1 v170 v169 (
        .frz v100 fun v171 =>
        .ret .ret [v171])) (
        .frz v100 fun v172 =>
        .ret .ret [v172])
      | .exit i =>
       if i = 4 then
        .op (.len true) [v900] fun v173 =>
        .op (.int .lss) [(g c166 1), v173] fun v174 =>
        .cnd v174 (
         .op (.slc 0 true true false) [v900, (g c166 1)] fun v175 =>
         .op (.eaddr 1) [v100, (g c166 0)] fun v176 =>
         .store 1 v176 v175 (
         .frz v100 fun v177 =>
         .ret .ret [v177])) (
         .frz v100 fun v178 =>
         .ret .ret [v178])
       else
       .fail
      | .ret =>
       .frz .slnil fun v179 =>
       .ret .ret [v179])
     else
     .fail
    | .ret =>
     .frz .slnil fun v180 =>
     .ret .ret [v180]))
  else
  .fail
 | .ret =>
  .frz .slnil fun v181 =>
  .ret .ret [v181])
theorem t160_eq (v900 : AVal) : afun cx 160 [v900] = t160 v900 := by kernel_rfl
def t161 (v900 v901 : AVal) : IT :=
 .cells 1 v901 fun c0 =>
 .call 114 [v900, (.func (.func 162) [] [(.rptr [(g c0 0)])])] fun v1 =>
 .op (.un .not) [v1] fun v2 =>
 .ret .ret [v2]
theorem t161_eq (v900 v901 : AVal) : afun cx 161 [v900, v901] = t161 v900 v901 := by kernel_rfl
def t162 (v900 v901 : AVal) : IT :=
 .cells 3 v900 fun c0 =>
 .load none v901 fun v1 =>
 .call 163 [v1, (.agg [(g c0 0), (g c0 1), (g c0 2)])] fun v2 =>
 .op (.un .not) [v2] fun v3 =>
 .ret .ret [v3]
theorem t162_eq (v900 v901 : AVal) : afun cx 162 [v900, v901] = t162 v900 v901 := by kernel_rfl
def t163 (v900 v901 : AVal) : IT :=
 .cells 3 v901 fun c0 =>
 .call 178 [v900, (.agg [(g c0 0), (g c0 1), (g c0 2)])] fun v1 =>
 .op (.int .geq) [v1, (I 0)] fun v2 =>
 .ret .ret [v2]
theorem t163_eq (v900 v901 : AVal) : afun cx 163 [v900, v901] = t163 v900 v901 := by kernel_rfl
def t164 (v900 : AVal) : IT :=
 .op (.nileq false .sl) [v900, .slnil] fun v0 =>
 .cnd v0 (
  .ret .ret [.slnil]) (
  .op (.mksl 3) [] fun v1 =>
  .appendM 3 40 v1 v900 fun v2 =>
  .ret .ret [v2])
theorem t164_eq (v900 : AVal) : afun cx 164 [v900] = t164 v900 := by kernel_rfl
def t165 (v900 v901 : AVal) : IT :=
 .op (.len false) [v900] fun v0 =>
 .loop 2 [(I 0), (I 0)] (fun c1 =>
  .op (.int .lss) [(g c1 1), v0] fun v2 =>
  .cnd v2 (
   .op (.eaddr 1) [v900, (g c1 1)] fun v3 =>
   .load none v3 fun v4 =>
   .callv v901 [v4] fun v5 =>
   .cnd v5 (
    .ret .ret [(g c1 1), (g c1 1)]) (
    .op (.int .add) [(g c1 1), (I 1)] fun v6 =>
    .ret .normal [(g c1 0), v6])) (
   .ret (.exit 0) [(g c1 0), (g c1 1)])) (
 fun x c7 => match x with
 | .normal =>
  .ret .ret [(I (-1))]
 | .exit i =>
  if i = 0 then
   .ret .ret [(I (-1))]
  else
  .fail
 | .ret =>
  .ret .ret [(g c7 0)])
theorem t165_eq (v900 v901 : AVal) : afun cx 165 [v900, v901] = t165 v900 v901 := by kernel_rfl
def t166 (v900 v901 : AVal) : IT :=
 .op (.len true) [v900] fun v0 =>
 .op (.len true) [v901] fun v1 =>
 .op (.int .geq) [v0, v1] fun v2 =>
 .cnd v2 (
  .op (.len true) [v901] fun v3 =>
  .op (.slc 0 true false true) [v900, v3] fun v4 =>
  .op (.str .eql) [v4, v901] fun v5 =>
  .ret .ret [v5]) (
  .ret .ret [ff])
theorem t166_eq (v900 v901 : AVal) : afun cx 166 [v900, v901] = t166 v900 v901 := by kernel_rfl
def t167 (v900 : AVal) : IT :=
 .cells 3 v900 fun c0 =>
 .op (.append 3 40) [.slnil, (g c0 2)] fun v1 =>
 .cells 1 v1 fun c2 =>
 .cells 3 (.agg [(g c0 0), (g c0 1), (g c2 0)]) fun c3 =>
 .ret .ret [(.agg [(g c3 0), (g c3 1), (g c3 2)])]
theorem t167_eq (v900 : AVal) : afun cx 167 [v900] = t167 v900 := by kernel_rfl
def t168 (v900 v901 : AVal) : IT :=
 .cells 4 v900 fun c0 =>
 .load none v901 fun v1 =>
 .op (.int .eql) [(g c0 0), v1] fun v2 =>
 .ret .ret [v2]
theorem t168_eq (v900 v901 : AVal) : afun cx 168 [v900, v901] = t168 v900 v901 := by kernel_rfl
def t169 (v900 : AVal) : IT :=
 .cells 4 v900 fun c0 =>
 .op (.int .neq) [(g c0 1), (I 1)] fun v1 =>
 .cnd v1 (
  .ret .ret [tt]) (
  .pcall 62 [(g c0 2)] fun v2 =>
  .op (.un .not) [v2] fun v3 =>
  .ret .ret [v3])
theorem t169_eq (v900 : AVal) : afun cx 169 [v900] = t169 v900 := by kernel_rfl
def t170 (v900 v901 : AVal) : IT :=
 .op (.int .lss) [v901, (I 1)] fun v0 =>
 .cnd v0 (
  .op (.len false) [v900] fun v1 =>
  .op (.int .gtr) [(I 1), v1] fun v2 =>
  .cnd v2 (
   .op (.len false) [v900] fun v3 =>
   .op (.slc 4 false false true) [v900, v3] fun v4 =>
   .objOf 4 40 .slnil v4 fun v5 =>
   .ret .ret [v5]) (
   .op (.slc 4 false false true) [v900, (I 1)] fun v6 =>
   .objOf 4 40 .slnil v6 fun v7 =>
   .ret .ret [v7])) (
  .op (.len false) [v900] fun v8 =>
  .op (.int .gtr) [v901, v8] fun v9 =>
  .cnd v9 (
   .op (.len false) [v900] fun v10 =>
   .op (.slc 4 false false true) [v900, v10] fun v11 =>
   .objOf 4 40 .slnil v11 fun v12 =>
   .ret .ret [v12]) (
   .op (.slc 4 false false true) [v900, v901] fun v13 =>
   .objOf 4 40 .slnil v13 fun v14 =>
   .ret .ret [v14]))
theorem t170_eq (v900 v901 : AVal) : afun cx 170 [v900, v901] = t170 v900 v901 := by kernel_rfl
def t171 (v900 : AVal) : IT :=
 .cells 4 v900 fun c0 =>
 .op (.mksl 1) [(S [104,116,109,108]), (S [116,97,98,108,101]), (S [116,101,109,112,108,97,116,101])] fun v1 =>
 .call 98 [(.agg [(g c0 0), (g c0 1), (g c0 2), (g c0 3)]), v1] fun v2 =>
 .ret .ret [v2]
theorem t171_eq (v900 : AVal) : afun cx 171 [v900] = t171 v900 := by kernel_rfl
def t172 (v900 : AVal) : IT :=
 .cells 4 v900 fun c0 =>
 .op (.mksl 1) [(S [111,112,116,103,114,111,117,112]), (S [111,112,116,105,111,110])] fun v1 =>
 .call 98 [(.agg [(g c0 0), (g c0 1), (g c0 2), (g c0 3)]), v1] fun v2 =>
 .op (.un .not) [v2] fun v3 =>
 .ret .ret [v3]
theorem t172_eq (v900 : AVal) : afun cx 172 [v900] = t172 v900 := by kernel_rfl
def t173 (v900 v901 : AVal) : IT :=
 .cells 4 v900 fun c0 =>
 .op (.int .eql) [(g c0 1), (I 3)] fun v1 =>
 .cnd v1 (
  .pcall 42 [(g c0 1), (g c0 2)] fun v2 =>
  .ret .ret [v2]) (
  .op (.int .eql) [(g c0 1), (I 2)] fun v3 =>
  .cnd v3 (
   .pcall 42 [(g c0 1), (g c0 2)] fun v4 =>
   .ret .ret [v4]) (
   .op (.mksl 1) [(S [97,112,112,108,101,116]), (S [99,97,112,116,105,111,110]), (S [104,116,109,108]), (S [109,97,114,113,117,101,101]), (S [111,98,106,101,99,116]), (S [116,97,98,108,101]), (S [116,100]), (S [116,101,109,112,108,97,116,101]), (S [116,104])] fun v5 =>
   .call 98 [(.agg [(g c0 0), (g c0 1), (g c0 2), (g c0 3)]), v5] fun v6 =>
   .cnd v6 (
    .ret .ret [tt]) (
    .load none v901 fun v7 =>
    .op (.int .eql) [v7, (I 2)] fun v8 =>
    .cnd v8 (
     .op (.mksl 1) [(S [111,108]), (S [117,108])] fun v9 =>
     .call 98 [(.agg [(g c0 0), (g c0 1), (g c0 2), (g c0 3)]), v9] fun v10 =>
     .cnd v10 (
      .ret .ret [tt]) (
      .load none v901 fun v11 =>
      .op (.int .eql) [v11, (I 3)] fun v12 =>
      .cnd v12 (
       .op (.mksl 1) [(S [98,117,116,116,111,110])] fun v13 =>
       .call 98 [(.agg [(g c0 0), (g c0 1), (g c0 2), (g c0 3)]), v13] fun v14 =>
       .ret .ret [v14]) (
       .ret .ret [ff]))) (
     .load none v901 fun v15 =>
     .op (.int .eql) [v15, (I 3)] fun v16 =>
     .cnd v16 (
      .op (.mksl 1) [(S [98,117,116,116,111,110])] fun v17 =>
      .call 98 [(.agg [(g c0 0), (g c0 1), (g c0 2), (g c0 3)]), v17] fun v18 =>
      .ret .ret [v18]) (
      .ret .ret [ff])))))
theorem t173_eq (v900 v901 : AVal) : afun cx 173 [v900, v901] = t173 v900 v901 := by kernel_rfl
def t174 (v900 v901 : AVal) : IT :=
 .op (.len false) [v900] fun v0 =>
 .loop 2 [(I 0), (I 0)] (fun c1 =>
  .op (.int .lss) [(g c1 1), v0] fun v2 =>
  .cnd v2 (
   .op (.eaddr 1) [v900, (g c1 1)] fun v3 =>
   .load none v3 fun v4 =>
   .op (.str .eql) [v901, v4] fun v5 =>
   .cnd v5 (
    .ret .ret [(g c1 1), (g c1 1)]) (
    .op (.int .add) [(g c1 1), (I 1)] fun v6 =>
    .ret .normal [(g c1 0), v6])) (
   .ret (.exit 0) [(g c1 0), (g c1 1)])) (
 fun x c7 => match x with
 | .normal =>
  .ret .ret [(I (-1))]
 | .exit i =>
  if i = 0 then
   .ret .ret [(I (-1))]
  else
  .fail
 | .ret =>
  .ret .ret [(g c7 0)])
theorem t174_eq (v900 v901 : AVal) : afun cx 174 [v900, v901] = t174 v900 v901 := by kernel_rfl
def t175 (v900 : AVal) : IT :=
 .call 179 [(.int .i32 65), (.int .i32 90)] fun v0 =>
 .callv v0 [v900] fun v1 =>
 .ret .ret [v1]
theorem t175_eq (v900 : AVal) : afun cx 175 [v900] = t175 v900 := by kernel_rfl
def t176 (v900 v901 : AVal) : IT :=
 .make 2 16 [(I 0), (I 0)] (I 0) (I 32) fun v0 =>
 .fail
theorem t176_eq (v900 v901 : AVal) : afun cx 176 [v900, v901] = t176 v900 v901 := by kernel_rfl
def t177 (v900 : AVal) : IT :=
 .op (.conv .u32) [v900] fun v0 =>
 .op (.int .leq) [v0, (.int .u32 255)] fun v1 =>
 .cnd v1 (
  .op (.int .eql) [v900, (.int .i32 9)] fun v2 =>
  .cnd v2 (
   .ret .ret [tt]) (
   .op (.int .eql) [v900, (.int .i32 10)] fun v3 =>
   .cnd v3 (
    .ret .ret [tt]) (
    .op (.int .eql) [v900, (.int .i32 11)] fun v4 =>
    .cnd v4 (
     .ret .ret [tt]) (
     .op (.int .eql) [v900, (.int .i32 12)] fun v5 =>
     .cnd v5 (
      .ret .ret [tt]) (
      .op (.int .eql) [v900, (.int .i32 13)] fun v6 =>
      .cnd v6 (
       .ret .ret [tt]) (
       .op (.int .eql) [v900, (.int .i32 32)] fun v7 =>
       .cnd v7 (
        .ret .ret [tt]) (
        .op (.int .eql) [v900, (.int .i32 133)] fun v8 =>
        .cnd v8 (
         .ret .ret [tt]) (
         .op (.int .eql) [v900, (.int .i32 160)] fun v9 =>
         .cnd v9 (
          .ret .ret [tt]) (
          .ret .ret [ff]))))))))) (
  .fail)
theorem t177_eq (v900 : AVal) : afun cx 177 [v900] = t177 v900 := by kernel_rfl
def t178 (v900 v901 : AVal) : IT :=
 .cells 3 v901 fun c0 =>
 .op (.len false) [v900] fun v1 =>
 .loop 2 [(I 0), (I 0)] (fun c2 =>
  .op (.int .lss) [(g c2 1), v1] fun v3 =>
  .cnd v3 (
   .op (.eaddr 3) [v900, (g c2 1)] fun v4 =>
   .load (some 3) v4 fun v5 =>
   .op (.geq false [.i, .s, .s]) [(.agg [(g c0 0), (g c0 1), (g c0 2)]), v5] fun v6 =>
   .cnd v6 (
    .ret .ret [(g c2 1), (g c2 1)]) (
    .op (.int .add) [(g c2 1), (I 1)] fun v7 =>
    .ret .normal [(g c2 0), v7])) (
   .ret (.exit 0) [(g c2 0), (g c2 1)])) (
 fun x c8 => match x with
 | .normal =>
  .ret .ret [(I (-1))]
 | .exit i =>
  if i = 0 then
   .ret .ret [(I (-1))]
  else
  .fail
 | .ret =>
  .ret .ret [(g c8 0)])
theorem t178_eq (v900 v901 : AVal) : afun cx 178 [v900, v901] = t178 v900 v901 := by kernel_rfl
def t179 (v900 v901 : AVal) : IT :=
 .cells 1 v900 fun c0 =>
 .cells 1 v901 fun c1 =>
 .ret .ret [(.func (.func 181) [] [(.rptr [(g c0 0)]), (.rptr [(g c1 0)])])]
theorem t179_eq (v900 v901 : AVal) : afun cx 179 [v900, v901] = t179 v900 v901 := by kernel_rfl
def t180 (v900 v901 : AVal) : IT :=
 .op .nonnil [v900] fun v0 =>
 .op (.faddr 0) [v0] fun v1 =>
 .load none v1 fun v2 =>
 .op .nonnil [v900] fun v3 =>
 .op (.faddr 2) [v3] fun v4 =>
 .load none v4 fun v5 =>
 .op (.len false) [v2] fun v6 =>
 .op (.int .gtr) [v6, v5] fun v7 =>
 .cnd v7 (
  .op (.conv .u32) [v901] fun v8 =>
  .op (.len false) [v2] fun v9 =>
  .op (.int .sub) [v9, (I 1)] fun v10 =>
  .op (.eaddr 3) [v2, v10] fun v11 =>
  .op (.faddr 1) [v11] fun v12 =>
  .load none v12 fun v13 =>
  .op (.conv .u32) [v13] fun v14 =>
  .op (.int .leq) [v8, v14] fun v15 =>
  .cnd v15 (
   .op (.slc 3 false true false) [v2, v5] fun v16 =>
   .op (.conv .u16) [v901] fun v17 =>
   .call 182 [v16, v17] fun v18 =>
   .ret .ret [v18]) (
   .op .nonnil [v900] fun v19 =>
   .op (.faddr 1) [v19] fun v20 =>
   .load none v20 fun v21 =>
   .op (.len false) [v21] fun v22 =>
   .op (.int .gtr) [v22, (I 0)] fun v23 =>
   .cnd v23 (
    .op (.eaddr 3) [v21, (I 0)] fun v24 =>
    .op (.faddr 0) [v24] fun v25 =>
    .load none v25 fun v26 =>
    .op (.conv .i32) [v26] fun v27 =>
    .op (.int .geq) [v901, v27] fun v28 =>
    .cnd v28 (
     .op (.conv .u32) [v901] fun v29 =>
     .call 183 [v21, v29] fun v30 =>
     .ret .ret [v30]) (
     .ret .ret [ff])) (
    .ret .ret [ff]))) (
  .op .nonnil [v900] fun v31 =>
  .op (.faddr 1) [v31] fun v32 =>
  .load none v32 fun v33 =>
  .op (.len false) [v33] fun v34 =>
  .op (.int .gtr) [v34, (I 0)] fun v35 =>
  .cnd v35 (
   .op (.eaddr 3) [v33, (I 0)] fun v36 =>
   .op (.faddr 0) [v36] fun v37 =>
   .load none v37 fun v38 =>
   .op (.conv .i32) [v38] fun v39 =>
   .op (.int .geq) [v901, v39] fun v40 =>
   .cnd v40 (
    .op (.conv .u32) [v901] fun v41 =>
    .call 183 [v33, v41] fun v42 =>
    .ret .ret [v42]) (
    .ret .ret [ff])) (
   .ret .ret [ff]))
theorem t180_eq (v900 v901 : AVal) : afun cx 180 [v900, v901] = t180 v900 v901 := by kernel_rfl
def t181 (v900 v901 v902 : AVal) : IT :=
 .load none v901 fun v0 =>
 .op (.int .leq) [v0, v900] fun v1 =>
 .cnd v1 (
  .load none v902 fun v2 =>
  .op (.int .leq) [v900, v2] fun v3 =>
  .ret .ret [v3]) (
  .ret .ret [ff])
theorem t181_eq (v900 v901 v902 : AVal) : afun cx 181 [v900, v901, v902] = t181 v900 v901 v902 := by kernel_rfl
def t182 (v900 v901 : AVal) : IT :=
 .op (.len false) [v900] fun v0 =>
 .op (.int .leq) [v0, (I 18)] fun v1 =>
 .cnd v1 (
  .op (.len false) [v900] fun v2 =>
  .loop 3 [ff, (I 0)] (fun c3 =>
   .op (.int .lss) [(g c3 1), v2] fun v4 =>
   .cnd v4 (
    .op (.eaddr 3) [v900, (g c3 1)] fun v5 =>
    .op .nonnil [v5] fun v6 =>
    .op (.faddr 0) [v6] fun v7 =>
    .load none v7 fun v8 =>
    .op (.int .lss) [v901, v8] fun v9 =>
    .cnd v9 (
     .ret .ret [ff, (g c3 1)]) (
     .op .nonnil [v5] fun v10 =>
     .op (.faddr 1) [v10] fun v11 =>
     .load none v11 fun v12 =>
     .op (.int .leq) [v901, v12] fun v13 =>
     .cnd v13 (
      .op .nonnil [v5] fun v14 =>
      .op (.faddr 2) [v14] fun v15 =>
      .load none v15 fun v16 =>
      .op (.int .eql) [v16, (.int .u16 1)] fun v17 =>
      .cnd v17 (
       .ret .ret [tt, (g c3 1)]) (
       .op .nonnil [v5] fun v18 =>
       .op (.faddr 0) [v18] fun v19 =>
       .load none v19 fun v20 =>
       .op (.int .sub) [v901, v20] fun v21 =>
       .op .nonnil [v5] fun v22 =>
       .op (.faddr 2) [v22] fun v23 =>
       .load none v23 fun v24 =>
       .op (.int .rem) [v21, v24] fun v25 =>
       .op (.int .eql) [v25, (.int .u16 0)] fun v26 =>
       .ret .ret [v26, (g c3 1)])) (
      .op (.int .add) [(g c3 1), (I 1)] fun v27 =>
      .ret .normal [(g c3 0), v27]))) (
    .ret (.exit 0) [(g c3 0), (g c3 1)])) (
  fun x c28 => match x with
  | .normal =>
   .ret .ret [ff]
  | .exit i =>
   if i = 0 then
    .ret .ret [ff]
   else
   .fail
  | .ret =>
   .ret .ret [(g c28 0)])) (
  .op (.int .leq) [v901, (.int .u16 255)] fun v29 =>
  .cnd v29 (
   .op (.len false) [v900] fun v30 =>
   .loop 3 [ff, (I 0)] (fun c31 =>
    .op (.int .lss) [(g c31 1), v30] fun v32 =>
    .cnd v32 (
     .op (.eaddr 3) [v900, (g c31 1)] fun v33 =>
     .op .nonnil [v33] fun v34 =>
     .op (.faddr 0) [v34] fun v35 =>
     .load none v35 fun v36 =>
     .op (.int .lss) [v901, v36] fun v37 =>
     .cnd v37 (
      .ret .ret [ff, (g c31 1)]) (
      .op .nonnil [v33] fun v38 =>
      .op (.faddr 1) [v38] fun v39 =>
      .load none v39 fun v40 =>
      .op (.int .leq) [v901, v40] fun v41 =>
      .cnd v41 (
       .op .nonnil [v33] fun v42 =>
       .op (.faddr 2) [v42] fun v43 =>
       .load none v43 fun v44 =>
       .op (.int .eql) [v44, (.int .u16 1)] fun v45 =>
       .cnd v45 (
        .ret .ret [tt, (g c31 1)]) (
        .op .nonnil [v33] fun v46 =>
        .op (.faddr 0) [v46] fun v47 =>
        .load none v47 fun v48 =>
        .op (.int .sub) [v901, v48] fun v49 =>
        .op .nonnil [v33] fun v50 =>
        .op (.faddr 2) [v50] fun v51 =>
        .load none v51 fun v52 =>
        .op (.int .rem) [v49, v52] fun v53 =>
        .op (.int .eql) [v53, (.int .u16 0)] fun v54 =>
        .ret .ret [v54, (g c31 1)])) (
       .op (.int .add) [(g c31 1), (I 1)] fun v55 =>
       .ret .normal [(g c31 0), v55]))) (
     .ret (.exit 0) [(g c31 0), (g c31 1)])) (
   fun x c56 => match x with
   | .normal =>
    .ret .ret [ff]
   | .exit i =>
    if i = 0 then
     .ret .ret [ff]
    else
    .fail
   | .ret =>
    .ret .ret [(g c56 0)])) (
   .op (.len false) [v900] fun v57 =>
   .loop 14 [ff, (I 0), v57] (fun c58 =>
    .op (.int .lss) [(g c58 1), (g c58 2)] fun v59 =>
    .cnd v59 (
     .op (.int .add) [(g c58 1), (g c58 2)] fun v60 =>
     .op (.conv .u64) [v60] fun v61 =>
     .op (.int .shr) [v61, (.int .u64 1)] fun v62 =>
     .op (.conv .i64) [v62] fun v63 =>
     .op (.eaddr 3) [v900, v63] fun v64 =>
     .op .nonnil [v64] fun v65 =>
     .op (.faddr 0) [v65] fun v66 =>
     .load none v66 fun v67 =>
     .op (.int .leq) [v67, v901] fun v68 =>
     .cnd v68 (
      .op .nonnil [v64] fun v69 =>
      .op (.faddr 1) [v69] fun v70 =>
      .load none v70 fun v71 =>
      .op (.int .leq) [v901, v71] fun v72 =>
      .cnd v72 (
       .op .nonnil [v64] fun v73 =>
       .op (.faddr 2) [v73] fun v74 =>
       .load none v74 fun v75 =>
       .op (.int .eql) [v75, (.int .u16 1)] fun v76 =>
       .cnd v76 (
        .ret .ret [tt, (g c58 1), (g c58 2)]) (
        .op .nonnil [v64] fun v77 =>
        .op (.faddr 0) [v77] fun v78 =>
        .load none v78 fun v79 =>
        .op (.int .sub) [v901, v79] fun v80 =>
        .op .nonnil [v64] fun v81 =>
        .op (.faddr 2) [v81] fun v82 =>
        .load none v82 fun v83 =>
        .op (.int .rem) [v80, v83] fun v84 =>
        .op (.int .eql) [v84, (.int .u16 0)] fun v85 =>
        .ret .ret [v85, (g c58 1), (g c58 2)])) (
       .op .nonnil [v64] fun v86 =>
       .op (.faddr 0) [v86] fun v87 =>
       .load none v87 fun v88 =>
       .op (.int .lss) [v901, v88] fun v89 =>
       .cnd v89 (
        .ret .normal [(g c58 0), (g c58 1), v63]) (
        .op (.int .add) [v63, (I 1)] fun v90 =>
        .ret .normal [(g c58 0), v90, (g c58 2)]))) (
      .op .nonnil [v64] fun v91 =>
      .op (.faddr 0) [v91] fun v92 =>
      .load none v92 fun v93 =>
      .op (.int .lss) [v901, v93] fun v94 =>
      .cnd v94 (
       .ret .normal [(g c58 0), (g c58 1), v63]) (
       .op (.int .add) [v63, (I 1)] fun v95 =>
       .ret .normal [(g c58 0), v95, (g c58 2)]))) (
     .ret (.exit 2) [(g c58 0), (g c58 1), (g c58 2)])) (
   fun x c96 => match x with
   | .normal =>
    .ret .ret [ff]
   | .exit i =>
    if i = 2 then
     .ret .ret [ff]
    else
    .fail
   | .ret =>
    .ret .ret [(g c96 0)])))
theorem t182_eq (v900 v901 : AVal) : afun cx 182 [v900, v901] = t182 v900 v901 := by kernel_rfl
def t183 (v900 v901 : AVal) : IT :=
 .op (.len false) [v900] fun v0 =>
 .op (.int .leq) [v0, (I 18)] fun v1 =>
 .cnd v1 (
  .op (.len false) [v900] fun v2 =>
  .loop 3 [ff, (I 0)] (fun c3 =>
   .op (.int .lss) [(g c3 1), v2] fun v4 =>
   .cnd v4 (
    .op (.eaddr 3) [v900, (g c3 1)] fun v5 =>
    .op .nonnil [v5] fun v6 =>
    .op (.faddr 0) [v6] fun v7 =>
    .load none v7 fun v8 =>
    .op (.int .lss) [v901, v8] fun v9 =>
    .cnd v9 (
     .ret .ret [ff, (g c3 1)]) (
     .op .nonnil [v5] fun v10 =>
     .op (.faddr 1) [v10] fun v11 =>
     .load none v11 fun v12 =>
     .op (.int .leq) [v901, v12] fun v13 =>
     .cnd v13 (
      .op .nonnil [v5] fun v14 =>
      .op (.faddr 2) [v14] fun v15 =>
      .load none v15 fun v16 =>
      .op (.int .eql) [v16, (.int .u32 1)] fun v17 =>
      .cnd v17 (
       .ret .ret [tt, (g c3 1)]) (
       .op .nonnil [v5] fun v18 =>
       .op (.faddr 0) [v18] fun v19 =>
       .load none v19 fun v20 =>
       .op (.int .sub) [v901, v20] fun v21 =>
       .op .nonnil [v5] fun v22 =>
       .op (.faddr 2) [v22] fun v23 =>
       .load none v23 fun v24 =>
       .op (.int .rem) [v21, v24] fun v25 =>
       .op (.int .eql) [v25, (.int .u32 0)] fun v26 =>
       .ret .ret [v26, (g c3 1)])) (
      .op (.int .add) [(g c3 1), (I 1)] fun v27 =>
      .ret .normal [(g c3 0), v27]))) (
    .ret (.exit 0) [(g c3 0), (g c3 1)])) (
  fun x c28 => match x with
  | .normal =>
   .ret .ret [ff]
  | .exit i =>
   if i = 0 then
    .ret .ret [ff]
   else
   .fail
  | .ret =>
   .ret .ret [(g c28 0)])) (
  .op (.len false) [v900] fun v29 =>
  .loop 14 [ff, (I 0), v29] (fun c30 =>
   .op (.int .lss) [(g c30 1), (g c30 2)] fun v31 =>
   .cnd v31 (
    .op (.int .add) [(g c30 1), (g c30 2)] fun v32 =>
    .op (.conv .u64) [v32] fun v33 =>
    .op (.int .shr) [v33, (.int .u64 1)] fun v34 =>
    .op (.conv .i64) [v34] fun v35 =>
    .op (.eaddr 3) [v900, v35] fun v36 =>
    .load (some 3) v36 fun v37 =>
    .cells 3 v37 fun c38 =>
    .op (.int .leq) [(g c38 0), v901] fun v39 =>
    .cnd v39 (
     .op (.int .leq) [v901, (g c38 1)] fun v40 =>
     .cnd v40 (
      .op (.int .eql) [(g c38 2), (.int .u32 1)] fun v41 =>
      .cnd v41 (
       .ret .ret [tt, (g c30 1), (g c30 2)]) (
       .op (.int .sub) [v901, (g c38 0)] fun v42 =>
       .op (.int .rem) [v42, (g c38 2)] fun v43 =>
       .op (.int .eql) [v43, (.int .u32 0)] fun v44 =>
       .ret .ret [v44, (g c30 1), (g c30 2)])) (
      .op (.int .lss) [v901, (g c38 0)] fun v45 =>
      .cnd v45 (
       .ret .normal [(g c30 0), (g c30 1), v35]) (
       .op (.int .add) [v35, (I 1)] fun v46 =>
       .ret .normal [(g c30 0), v46, (g c30 2)]))) (
     .op (.int .lss) [v901, (g c38 0)] fun v47 =>
     .cnd v47 (
      .ret .normal [(g c30 0), (g c30 1), v35]) (
      .op (.int .add) [v35, (I 1)] fun v48 =>
      .ret .normal [(g c30 0), v48, (g c30 2)]))) (
    .ret (.exit 2) [(g c30 0), (g c30 1), (g c30 2)])) (
  fun x c49 => match x with
  | .normal =>
   .ret .ret [ff]
  | .exit i =>
   if i = 2 then
    .ret .ret [ff]
   else
   .fail
  | .ret =>
   .ret .ret [(g c49 0)]))
theorem t183_eq (v900 v901 : AVal) : afun cx 183 [v900, v901] = t183 v900 v901 := by kernel_rfl
def t207 : IT :=
 .op (.mkagg [(.int .u16 0), (.int .u16 0), (.int .u16 0)] [(0, 1), (1, 1), (2, 1)]) [(.int .u16 9), (.int .u16 13), (.int .u16 1)] fun v0 =>
 .op (.mkagg [(.int .u16 0), (.int .u16 0), (.int .u16 0)] [(0, 1), (1, 1), (2, 1)]) [(.int .u16 32), (.int .u16 133), (.int .u16 101)] fun v1 =>
 .op (.mkagg [(.int .u16 0), (.int .u16 0), (.int .u16 0)] [(0, 1), (1, 1), (2, 1)]) [(.int .u16 160), (.int .u16 5760), (.int .u16 5600)] fun v2 =>
 .op (.mkagg [(.int .u16 0), (.int .u16 0), (.int .u16 0)] [(0, 1), (1, 1), (2, 1)]) [(.int .u16 8192), (.int .u16 8202), (.int .u16 1)] fun v3 =>
 .op (.mkagg [(.int .u16 0), (.int .u16 0), (.int .u16 0)] [(0, 1), (1, 1), (2, 1)]) [(.int .u16 8232), (.int .u16 8233), (.int .u16 1)] fun v4 =>
 .op (.mkagg [(.int .u16 0), (.int .u16 0), (.int .u16 0)] [(0, 1), (1, 1), (2, 1)]) [(.int .u16 8239), (.int .u16 8287), (.int .u16 48)] fun v5 =>
 .op (.mkagg [(.int .u16 0), (.int .u16 0), (.int .u16 0)] [(0, 1), (1, 1), (2, 1)]) [(.int .u16 12288), (.int .u16 12288), (.int .u16 1)] fun v6 =>
 .op (.mksl 3) [v0, v1, v2, v3, v4, v5, v6] fun v7 =>
 .op (.mkagg [.slnil, .slnil, (I 0)] [(0, 1), (2, 1)]) [v7, (I 2)] fun v8 =>
 .cells 3 v8 fun c9 =>
 .fail
theorem t207_eq : afun cx 207 [] = t207  := by kernel_rfl
end Go.Am
