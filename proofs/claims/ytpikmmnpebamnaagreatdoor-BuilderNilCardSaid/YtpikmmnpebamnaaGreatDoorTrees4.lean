/-
  The trees of the functions, written by a program; each is held against the code by the kernel. No law is claimed here.
-/
import Derived.Test.YtpikmmnpebamnaaGreatDoorCtx
import Derived.KernelRfl
namespace Go.Am
open Go
set_option linter.unusedVariables false
def t167 (v900 v901 : AVal) : IT :=
 .op (.len false) [v900] fun v0 =>
 .loop 2 [(I 0), (I 0)] (fun c1 =>
 .op (.int .lss) [(g c1 1), v0] fun v2 =>
 .cnd v2 (
 .op (.eaddr 1) [v900, (g c1 1)] fun v3 =>
 .load none v3 fun v4 =>
 .callv v901 [v4] fun v5 =>
 .cnd v5 (
 .ret .ret [(g c1 1), (g c1 1)]) (
 .op (.int .add) [(g c1 1), (I 1)] fun v6 =>
 .ret .normal [(g c1 0), v6])) (
 .ret (.exit 0) [(g c1 0), (g c1 1)])) (
 fun x c7 => match x with
 | .normal =>
 .fail
 | .exit i =>
 if i = 0 then
 .ret .ret [(I (-1))]
 else
 .fail
 | .ret =>
 .ret .ret [(g c7 0)])
theorem t167_eq (v900 v901 : AVal) : afun cx 167 [v900, v901] = t167 v900 v901 := by kernel_rfl
def t169 (v900 v901 : AVal) : IT :=
 .call 43 [v900, v901] fun v0 =>
 .op .nonnil [v0] fun v1 =>
 .op (.faddr 0) [v1] fun v2 =>
 .op (.faddr 1) [v2] fun v3 =>
 .load none v3 fun v4 =>
 .op (.int .eql) [v4, (I 0)] fun v5 =>
 .cnd v5 (
 .ret .ret [(.tuple [])]) (
 .op .nonnil [v0] fun v6 =>
 .op (.faddr 0) [v6] fun v7 =>
 .op (.faddr 1) [v7] fun v8 =>
 .load none v8 fun v9 =>
 .call 43 [v900, v9] fun v10 =>
 .op .nonnil [v10] fun v11 =>
 .op (.faddr 0) [v11] fun v12 =>
 .op (.faddr 2) [v12] fun v13 =>
 .load none v13 fun v14 =>
 .call 78 [v14, v901] fun v15 =>
 .op .nonnil [v10] fun v16 =>
 .op (.faddr 0) [v16] fun v17 =>
 .op (.faddr 2) [v17] fun v18 =>
 .load none v18 fun v19 =>
 .op (.int .add) [v15, (I 1)] fun v20 =>
 .call 210 [v19, v15, v20] fun v21 =>
 .op .nonnil [v10] fun v22 =>
 .op (.faddr 0) [v22] fun v23 =>
 .op (.faddr 2) [v23] fun v24 =>
 .store 1 v24 v21 (
 .op .nonnil [v0] fun v25 =>
 .op (.faddr 0) [v25] fun v26 =>
 .op (.faddr 1) [v26] fun v27 =>
 .store 1 v27 (I 0) (
 .ret .ret [(.tuple [])])))
theorem t169_eq (v900 v901 : AVal) : afun cx 169 [v900, v901] = t169 v900 v901 := by kernel_rfl
def t171 (v900 v901 : AVal) : IT :=
 .op (.int .eql) [v900, (I 3)] fun v0 =>
 .cnd v0 (
 .op (.str .eql) [v901, (S [109,105])] fun v1 =>
 .cnd v1 (
 .ret .ret [tt]) (
 .op (.str .eql) [v901, (S [109,110])] fun v2 =>
 .cnd v2 (
 .ret .ret [tt]) (
 .op (.str .eql) [v901, (S [109,111])] fun v3 =>
 .cnd v3 (
 .ret .ret [tt]) (
 .op (.str .eql) [v901, (S [109,115])] fun v4 =>
 .cnd v4 (
 .ret .ret [tt]) (
 .op (.str .eql) [v901, (S [109,116,101,120,116])] fun v5 =>
 .ret .ret [v5]))))) (
 .ret .ret [ff])
theorem t171_eq (v900 v901 : AVal) : afun cx 171 [v900, v901] = t171 v900 v901 := by kernel_rfl
def t172 (v900 : AVal) : IT :=
 .bytesObj v900 fun v0 =>
 .op (.len false) [v0] fun v1 =>
 .loop 3 [(I 0)] (fun c2 =>
 .op (.int .lss) [(g c2 0), v1] fun v3 =>
 .cnd v3 (
 .op (.eaddr 1) [v0, (g c2 0)] fun v4 =>
 .load none v4 fun v5 =>
 .op (.conv .i32) [v5] fun v6 =>
 .pcall 213 [v6] fun v7 =>
 .cnd v7 (
 .op (.int .sub) [v5, (.int .u8 65)] fun v8 =>
 .op (.int .add) [v8, (.int .u8 97)] fun v9 =>
 .op (.eaddr 1) [v0, (g c2 0)] fun v10 =>
 .store 1 v10 v9 (
 .op (.int .add) [(g c2 0), (I 1)] fun v11 =>
 .ret .normal [v11])) (
 .op (.int .add) [(g c2 0), (I 1)] fun v12 =>
 .ret .normal [v12])) (
 .ret (.exit 0) [(g c2 0)])) (
 fun x c13 => match x with
 | .normal =>
 .fail
 | .exit i =>
 if i = 0 then
 .frz v0 fun v14 =>
 .op .b2s [v14] fun v15 =>
 .ret .ret [v15]
 else
 .fail
 | .ret =>
 .ret .ret [(S [])])
theorem t172_eq (v900 : AVal) : afun cx 172 [v900] = t172 v900 := by kernel_rfl
def t173 (v900 v901 : AVal) : IT :=
 .op (.len false) [v900] fun v0 =>
 .loop 2 [(I 0), (I 0)] (fun c1 =>
 .op (.int .lss) [(g c1 1), v0] fun v2 =>
 .cnd v2 (
 .op (.eaddr 1) [v900, (g c1 1)] fun v3 =>
 .load none v3 fun v4 =>
 .op (.str .eql) [v901, v4] fun v5 =>
 .cnd v5 (
 .ret .ret [(g c1 1), (g c1 1)]) (
 .op (.int .add) [(g c1 1), (I 1)] fun v6 =>
 .ret .normal [(g c1 0), v6])) (
 .ret (.exit 0) [(g c1 0), (g c1 1)])) (
 fun x c7 => match x with
 | .normal =>
 .fail
 | .exit i =>
 if i = 0 then
 .ret .ret [(I (-1))]
 else
 .fail
 | .ret =>
 .ret .ret [(g c7 0)])
theorem t173_eq (v900 v901 : AVal) : afun cx 173 [v900, v901] = t173 v900 v901 := by kernel_rfl
def t174 : IT :=
 .op (.mkagg [(S []), (I 0)] [(0, 1), (1, 1)]) [(S [116,114]), (I 14)] fun v0 =>
 .op (.mkagg [(S []), (I 0)] [(0, 1), (1, 1)]) [(S [116,98,111,100,121]), (I 13)] fun v1 =>
 .op (.mkagg [(S []), (I 0)] [(0, 1), (1, 1)]) [(S [116,104,101,97,100]), (I 13)] fun v2 =>
 .op (.mkagg [(S []), (I 0)] [(0, 1), (1, 1)]) [(S [116,102,111,111,116]), (I 13)] fun v3 =>
 .op (.mkagg [(S []), (I 0)] [(0, 1), (1, 1)]) [(S [99,97,112,116,105,111,110]), (I 11)] fun v4 =>
 .op (.mkagg [(S []), (I 0)] [(0, 1), (1, 1)]) [(S [99,111,108,103,114,111,117,112]), (I 12)] fun v5 =>
 .op (.mkagg [(S []), (I 0)] [(0, 1), (1, 1)]) [(S [116,97,98,108,101]), (I 9)] fun v6 =>
 .op (.mkagg [(S []), (I 0)] [(0, 1), (1, 1)]) [(S [98,111,100,121]), (I 7)] fun v7 =>
 .op (.mkagg [(S []), (I 0)] [(0, 1), (1, 1)]) [(S [102,114,97,109,101,115,101,116]), (I 20)] fun v8 =>
 .op (.mksl 2) [v0, v1, v2, v3, v4, v5, v6, v7, v8] fun v9 =>
 .ret .ret [v9]
theorem t174_eq : afun cx 174 [] = t174  := by kernel_rfl
def t175 (v900 v901 : AVal) : IT :=
 .op (.int .sub) [v901, (I 1)] fun v0 =>
 .loop 2 [(I 0), v0] (fun c1 =>
 .op (.int .geq) [(g c1 1), (I 0)] fun v2 =>
 .cnd v2 (
 .op .nonnil [v900] fun v3 =>
 .op (.faddr 2) [v3] fun v4 =>
 .call 112 [v4, (g c1 1)] fun v5 =>
 .op (.mksl 1) [(S [116,101,109,112,108,97,116,101])] fun v6 =>
 .call 49 [v5, v6] fun v7 =>
 .cnd v7 (
 .ret (.exit 0) [(g c1 0), (g c1 1)]) (
 .op .nonnil [v900] fun v8 =>
 .op (.faddr 2) [v8] fun v9 =>
 .call 112 [v9, (g c1 1)] fun v10 =>
 .op (.mksl 1) [(S [116,97,98,108,101])] fun v11 =>
 .call 49 [v10, v11] fun v12 =>
 .cnd v12 (
 .ret .ret [(I 17), (g c1 1)]) (
 .op (.int .sub) [(g c1 1), (I 1)] fun v13 =>
 .ret .normal [(g c1 0), v13]))) (
 .ret (.exit 0) [(g c1 0), (g c1 1)])) (
 fun x c14 => match x with
 | .normal =>
 .fail
 | .exit i =>
 if i = 0 then
 .ret .ret [(I 16)]
 else
 .fail
 | .ret =>
 .ret .ret [(g c14 0)])
theorem t175_eq (v900 v901 : AVal) : afun cx 175 [v900, v901] = t175 v900 v901 := by kernel_rfl
def t176 (v900 v901 : AVal) : IT :=
 .cells 3 v900 fun c0 =>
 .op (.faddr 0) [v901] fun v1 =>
 .load none v1 fun v2 =>
 .op (.int .eql) [v2, (g c0 0)] fun v3 =>
 .cnd v3 (
 .op (.faddr 1) [v901] fun v4 =>
 .load none v4 fun v5 =>
 .op (.str .eql) [v5, (g c0 1)] fun v6 =>
 .ret .ret [v6]) (
 .ret .ret [ff])
theorem t176_eq (v900 v901 : AVal) : afun cx 176 [v900, v901] = t176 v900 v901 := by kernel_rfl
def t177 (v900 v901 : AVal) : IT :=
 .call 62 [v900] fun v0 =>
 .op (.int .sub) [v0, (I 1)] fun v1 =>
 .loop 2 [(I 0), v1] (fun c2 =>
 .op (.int .geq) [(g c2 1), (I 0)] fun v3 =>
 .cnd v3 (
 .op .nonnil [v900] fun v4 =>
 .op (.faddr 0) [v4] fun v5 =>
 .load none v5 fun v6 =>
 .op (.eaddr 4) [v6, (g c2 1)] fun v7 =>
 .load (some 4) v7 fun v8 =>
 .callv v901 [v8] fun v9 =>
 .cnd v9 (
 .ret .ret [(g c2 1), (g c2 1)]) (
 .op (.int .sub) [(g c2 1), (I 1)] fun v10 =>
 .ret .normal [(g c2 0), v10])) (
 .ret (.exit 0) [(g c2 0), (g c2 1)])) (
 fun x c11 => match x with
 | .normal =>
 .fail
 | .exit i =>
 if i = 0 then
 .ret .ret [(I (-1))]
 else
 .fail
 | .ret =>
 .ret .ret [(g c11 0)])
theorem t177_eq (v900 v901 : AVal) : afun cx 177 [v900, v901] = t177 v900 v901 := by kernel_rfl
def t178 (v900 v901 : AVal) : IT :=
 .cells 4 v900 fun c0 =>
 .load none v901 fun v1 =>
 .op (.mksl 1) [v1] fun v2 =>
 .call 131 [(.agg [(g c0 0), (g c0 1), (g c0 2), (g c0 3)]), v2] fun v3 =>
 .ret .ret [v3]
theorem t178_eq (v900 v901 : AVal) : afun cx 178 [v900, v901] = t178 v900 v901 := by kernel_rfl
def t179 (v900 v901 v902 : AVal) : IT :=
 .cells 1 v902 fun c0 =>
 .call 214 [v901] fun v1 =>
 .cells 1 v1 fun c2 =>
 .call 177 [v900, (.func (.func 215) [] [(.rptr [(g c0 0)]), (.rptr [(g c2 0)])])] fun v3 =>
 .op (.int .geq) [v3, (I 0)] fun v4 =>
 .cnd v4 (
 .load none (.rptr [(g c0 0)]) fun v5 =>
 .op .nonnil [v900] fun v6 =>
 .op (.faddr 0) [v6] fun v7 =>
 .load none v7 fun v8 =>
 .op (.eaddr 4) [v8, v3] fun v9 =>
 .load (some 4) v9 fun v10 =>
 .callv v5 [v10] fun v11 =>
 .ret .ret [v11]) (
 .ret .ret [ff])
theorem t179_eq (v900 v901 v902 : AVal) : afun cx 179 [v900, v901, v902] = t179 v900 v901 v902 := by kernel_rfl
def t180 (v900 v901 : AVal) : IT :=
 .cells 4 v900 fun c0 =>
 .load none v901 fun v1 =>
 .call 131 [(.agg [(g c0 0), (g c0 1), (g c0 2), (g c0 3)]), v1] fun v2 =>
 .ret .ret [v2]
theorem t180_eq (v900 v901 : AVal) : afun cx 180 [v900, v901] = t180 v900 v901 := by kernel_rfl
def t181 (v900 v901 : AVal) : IT :=
 .cells 4 v900 fun c0 =>
 .op (.int .neq) [(g c0 1), (I 1)] fun v1 =>
 .cnd v1 (
 .ret .ret [tt]) (
 .pcall 182 [(g c0 2)] fun v2 =>
 .op (.un .not) [v2] fun v3 =>
 .cnd v3 (
 .ret .ret [tt]) (
 .load none v901 fun v4 =>
 .op (.str .eql) [(g c0 2), v4] fun v5 =>
 .ret .ret [v5]))
theorem t181_eq (v900 v901 : AVal) : afun cx 181 [v900, v901] = t181 v900 v901 := by kernel_rfl
def t182 (v900 : AVal) : IT :=
 .op (.str .eql) [v900, (S [100,100])] fun v0 =>
 .cnd v0 (
 .ret .ret [tt]) (
 .op (.str .eql) [v900, (S [100,116])] fun v1 =>
 .cnd v1 (
 .ret .ret [tt]) (
 .op (.str .eql) [v900, (S [108,105])] fun v2 =>
 .cnd v2 (
 .ret .ret [tt]) (
 .op (.str .eql) [v900, (S [111,112,116,103,114,111,117,112])] fun v3 =>
 .cnd v3 (
 .ret .ret [tt]) (
 .op (.str .eql) [v900, (S [111,112,116,105,111,110])] fun v4 =>
 .cnd v4 (
 .ret .ret [tt]) (
 .op (.str .eql) [v900, (S [112])] fun v5 =>
 .cnd v5 (
 .ret .ret [tt]) (
 .op (.str .eql) [v900, (S [114,98])] fun v6 =>
 .cnd v6 (
 .ret .ret [tt]) (
 .op (.str .eql) [v900, (S [114,112])] fun v7 =>
 .cnd v7 (
 .ret .ret [tt]) (
 .op (.str .eql) [v900, (S [114,116])] fun v8 =>
 .cnd v8 (
 .ret .ret [tt]) (
 .op (.str .eql) [v900, (S [114,116,99])] fun v9 =>
 .cnd v9 (
 .ret .ret [tt]) (
 .ret .ret [ff]))))))))))
theorem t182_eq (v900 : AVal) : afun cx 182 [v900] = t182 v900 := by kernel_rfl
def t183 (v900 v901 : AVal) : IT :=
 .cells 4 v900 fun c0 =>
 .load none v901 fun v1 =>
 .op (.int .eql) [(g c0 0), v1] fun v2 =>
 .ret .ret [v2]
theorem t183_eq (v900 v901 : AVal) : afun cx 183 [v900, v901] = t183 v900 v901 := by kernel_rfl
def t184 (v900 v901 : AVal) : IT :=
 .cells 4 v900 fun c0 =>
 .load none v901 fun v1 =>
 .op (.int .eql) [(g c0 0), v1] fun v2 =>
 .ret .ret [v2]
theorem t184_eq (v900 v901 : AVal) : afun cx 184 [v900, v901] = t184 v900 v901 := by kernel_rfl
def t185 (v900 : AVal) : IT :=
 .cells 4 v900 fun c0 =>
 .op (.int .neq) [(g c0 1), (I 1)] fun v1 =>
 .cnd v1 (
 .ret .ret [tt]) (
 .pcall 186 [(g c0 2)] fun v2 =>
 .op (.un .not) [v2] fun v3 =>
 .ret .ret [v3])
theorem t185_eq (v900 : AVal) : afun cx 185 [v900] = t185 v900 := by kernel_rfl
def t186 (v900 : AVal) : IT :=
 .op (.str .eql) [v900, (S [99,97,112,116,105,111,110])] fun v0 =>
 .cnd v0 (
 .ret .ret [tt]) (
 .op (.str .eql) [v900, (S [99,111,108,103,114,111,117,112])] fun v1 =>
 .cnd v1 (
 .ret .ret [tt]) (
 .op (.str .eql) [v900, (S [116,98,111,100,121])] fun v2 =>
 .cnd v2 (
 .ret .ret [tt]) (
 .op (.str .eql) [v900, (S [116,100])] fun v3 =>
 .cnd v3 (
 .ret .ret [tt]) (
 .op (.str .eql) [v900, (S [116,102,111,111,116])] fun v4 =>
 .cnd v4 (
 .ret .ret [tt]) (
 .op (.str .eql) [v900, (S [116,104])] fun v5 =>
 .cnd v5 (
 .ret .ret [tt]) (
 .op (.str .eql) [v900, (S [116,104,101,97,100])] fun v6 =>
 .cnd v6 (
 .ret .ret [tt]) (
 .op (.str .eql) [v900, (S [116,114])] fun v7 =>
 .cnd v7 (
 .ret .ret [tt]) (
 .pcall 182 [v900] fun v8 =>
 .ret .ret [v8]))))))))
theorem t186_eq (v900 : AVal) : afun cx 186 [v900] = t186 v900 := by kernel_rfl
def t187 (v900 v901 : AVal) : IT :=
 .cells 1 v901 fun c0 =>
 .call 59 [v900, (.func (.func 188) [] [(.rptr [(g c0 0)])])] fun v1 =>
 .op (.un .not) [v1] fun v2 =>
 .ret .ret [v2]
theorem t187_eq (v900 v901 : AVal) : afun cx 187 [v900, v901] = t187 v900 v901 := by kernel_rfl
def t188 (v900 v901 : AVal) : IT :=
 .cells 3 v900 fun c0 =>
 .load none v901 fun v1 =>
 .call 189 [v1, (.agg [(g c0 0), (g c0 1), (g c0 2)])] fun v2 =>
 .op (.un .not) [v2] fun v3 =>
 .ret .ret [v3]
theorem t188_eq (v900 v901 : AVal) : afun cx 188 [v900, v901] = t188 v900 v901 := by kernel_rfl
def t189 (v900 v901 : AVal) : IT :=
 .cells 3 v901 fun c0 =>
 .call 216 [v900, (.agg [(g c0 0), (g c0 1), (g c0 2)])] fun v1 =>
 .op (.int .geq) [v1, (I 0)] fun v2 =>
 .ret .ret [v2]
theorem t189_eq (v900 v901 : AVal) : afun cx 189 [v900, v901] = t189 v900 v901 := by kernel_rfl
def t190 (v900 v901 v902 : AVal) : IT :=
 .op (.len false) [v900] fun v0 =>
 .mem (.chk3 3) [v900, v901, v902, v0] fun v1 =>
 .op (.int .eql) [v901, v902] fun v2 =>
 .cnd v2 (
 .ret .ret [v900]) (
 .op (.len false) [v900] fun v3 =>
 .op (.slc 3 false false true) [v900, v901] fun v4 =>
 .op (.slc 3 false true false) [v900, v902] fun v5 =>
 .grow 3 48 v4 v5 fun v6 =>
 .op (.len false) [v6] fun v7 =>
 .mem (.deep 3 true true) [v6, v7, v3] fun v8 =>
 .mem (.clear 3 [(I 0), (S []), .slnil]) [v8] fun v9 =>
 .ret .ret [v6])
theorem t190_eq (v900 v901 v902 : AVal) : afun cx 190 [v900, v901, v902] = t190 v900 v901 v902 := by kernel_rfl
def t191 (v900 v901 : AVal) : IT :=
 .cells 4 v900 fun c0 =>
 .load none v901 fun v1 =>
 .op (.int .eql) [(g c0 0), v1] fun v2 =>
 .ret .ret [v2]
theorem t191_eq (v900 v901 : AVal) : afun cx 191 [v900, v901] = t191 v900 v901 := by kernel_rfl
def t192 (v900 v901 v902 : AVal) : IT :=
 .cells 4 v902 fun c0 =>
 .call 121 [v900, v901] fun v1 =>
 .op (.int .lss) [v1, (I 1)] fun v2 =>
 .cnd v2 (
 .frzAt 0 v900 (
 .ret .ret [ff])) (
 .op .nonnil [v900] fun v3 =>
 .op (.faddr 0) [v3] fun v4 =>
 .load none v4 fun v5 =>
 .call 217 [v5] fun v6 =>
 .op .nonnil [v900] fun v7 =>
 .op (.faddr 0) [v7] fun v8 =>
 .store 1 v8 v6 (
 .op .nonnil [v900] fun v9 =>
 .op (.faddr 0) [v9] fun v10 =>
 .load none v10 fun v11 =>
 .op (.eaddr 4) [v11, v1] fun v12 =>
 .store 4 v12 (.agg [(g c0 0), (g c0 1), (g c0 2), (g c0 3)]) (
 .frzAt 0 v900 (
 .ret .ret [tt]))))
theorem t192_eq (v900 v901 v902 : AVal) : afun cx 192 [v900, v901, v902] = t192 v900 v901 v902 := by kernel_rfl
def t193 (v900 v901 v902 : AVal) : IT :=
 .cells 3 v902 fun c0 =>
 .call 82 [v900, v901] fun v1 =>
 .op (.int .lss) [v1, (I 0)] fun v2 =>
 .cnd v2 (
 .frzAt 0 v900 (
 .ret .ret [ff])) (
 .op .nonnil [v900] fun v3 =>
 .op (.faddr 0) [v3] fun v4 =>
 .load none v4 fun v5 =>
 .call 122 [v5] fun v6 =>
 .op .nonnil [v900] fun v7 =>
 .op (.faddr 0) [v7] fun v8 =>
 .store 1 v8 v6 (
 .op .nonnil [v900] fun v9 =>
 .op (.faddr 0) [v9] fun v10 =>
 .load none v10 fun v11 =>
 .call 134 [(.agg [(g c0 0), (g c0 1), (g c0 2)])] fun v12 =>
 .load none v10 fun v13 =>
 .same v11 v13 (
 .op (.eaddr 3) [v11, v1] fun v14 =>
 .store 3 v14 v12 (
 .frzAt 0 v900 (
 .ret .ret [tt])))))
theorem t193_eq (v900 v901 v902 : AVal) : afun cx 193 [v900, v901, v902] = t193 v900 v901 v902 := by kernel_rfl
def t194 (v900 v901 : AVal) : IT :=
 .op (.slc 4 false false true) [v900, v901] fun v0 =>
 .op (.append 4 40) [.slnil, v0] fun v1 =>
 .op (.int .add) [v901, (I 1)] fun v2 =>
 .op (.slc 4 false true false) [v900, v2] fun v3 =>
 .op (.append 4 40) [v1, v3] fun v4 =>
 .ret .ret [v4]
theorem t194_eq (v900 v901 : AVal) : afun cx 194 [v900, v901] = t194 v900 v901 := by kernel_rfl
def t202 (v900 v901 v902 v903 : AVal) : IT :=
 .call 159 [v900, v901] fun v0 =>
 .op (.un .not) [v0] fun v1 =>
 .cnd v1 (
 .ret .ret [(I 3)]) (
 .call 159 [v900, v902] fun v2 =>
 .op (.un .not) [v2] fun v3 =>
 .cnd v3 (
 .ret .ret [(I 3)]) (
 .op (.int .neq) [v903, (I 0)] fun v4 =>
 .cnd v4 (
 .call 159 [v900, v903] fun v5 =>
 .op (.un .not) [v5] fun v6 =>
 .cnd v6 (
 .ret .ret [(I 3)]) (
 .op .nonnil [v900] fun v7 =>
 .op (.faddr 0) [v7] fun v8 =>
 .load none v8 fun v9 =>
 .op (.eaddr 13) [v9, v901] fun v10 =>
 .op (.faddr 0) [v10] fun v11 =>
 .load none v11 fun v12 =>
 .op .nonnil [v900] fun v13 =>
 .op (.faddr 0) [v13] fun v14 =>
 .load none v14 fun v15 =>
 .op (.eaddr 13) [v15, v902] fun v16 =>
 .op (.faddr 0) [v16] fun v17 =>
 .load none v17 fun v18 =>
 .op (.int .neq) [v12, (I 1)] fun v19 =>
 .cnd v19 (
 .op (.int .neq) [v12, (I 2)] fun v20 =>
 .cnd v20 (
 .op (.int .neq) [v12, (I 4)] fun v21 =>
 .cnd v21 (
 .ret .ret [(I 4)]) (
 .op (.int .eql) [v18, (I 1)] fun v22 =>
 .cnd v22 (
 .ret .ret [(I 4)]) (
 .op (.int .eql) [v18, (I 2)] fun v23 =>
 .cnd v23 (
 .ret .ret [(I 4)]) (
 .call 226 [v900, v902, v901] fun v24 =>
 .cnd v24 (
 .ret .ret [(I 4)]) (
 .op (.int .neq) [v903, (I 0)] fun v25 =>
 .cnd v25 (
 .op (.int .eql) [v903, v902] fun v26 =>
 .cnd v26 (
 .ret .ret [(I 5)]) (
 .op .nonnil [v900] fun v27 =>
 .op (.faddr 0) [v27] fun v28 =>
 .load none v28 fun v29 =>
 .op (.eaddr 13) [v29, v903] fun v30 =>
 .op (.faddr 1) [v30] fun v31 =>
 .load none v31 fun v32 =>
 .op (.int .neq) [v32, v901] fun v33 =>
 .cnd v33 (
 .ret .ret [(I 5)]) (
 .ret .ret [(I 0)]))) (
 .ret .ret [(I 0)])))))) (
 .op (.int .eql) [v18, (I 1)] fun v34 =>
 .cnd v34 (
 .ret .ret [(I 4)]) (
 .op (.int .eql) [v18, (I 2)] fun v35 =>
 .cnd v35 (
 .ret .ret [(I 4)]) (
 .call 226 [v900, v902, v901] fun v36 =>
 .cnd v36 (
 .ret .ret [(I 4)]) (
 .op (.int .neq) [v903, (I 0)] fun v37 =>
 .cnd v37 (
 .op (.int .eql) [v903, v902] fun v38 =>
 .cnd v38 (
 .ret .ret [(I 5)]) (
 .op .nonnil [v900] fun v39 =>
 .op (.faddr 0) [v39] fun v40 =>
 .load none v40 fun v41 =>
 .op (.eaddr 13) [v41, v903] fun v42 =>
 .op (.faddr 1) [v42] fun v43 =>
 .load none v43 fun v44 =>
 .op (.int .neq) [v44, v901] fun v45 =>
 .cnd v45 (
 .ret .ret [(I 5)]) (
 .ret .ret [(I 0)]))) (
 .ret .ret [(I 0)])))))) (
 .op (.int .eql) [v18, (I 1)] fun v46 =>
 .cnd v46 (
 .ret .ret [(I 4)]) (
 .op (.int .eql) [v18, (I 2)] fun v47 =>
 .cnd v47 (
 .ret .ret [(I 4)]) (
 .call 226 [v900, v902, v901] fun v48 =>
 .cnd v48 (
 .ret .ret [(I 4)]) (
 .op (.int .neq) [v903, (I 0)] fun v49 =>
 .cnd v49 (
 .op (.int .eql) [v903, v902] fun v50 =>
 .cnd v50 (
 .ret .ret [(I 5)]) (
 .op .nonnil [v900] fun v51 =>
 .op (.faddr 0) [v51] fun v52 =>
 .load none v52 fun v53 =>
 .op (.eaddr 13) [v53, v903] fun v54 =>
 .op (.faddr 1) [v54] fun v55 =>
 .load none v55 fun v56 =>
 .op (.int .neq) [v56, v901] fun v57 =>
 .cnd v57 (
 .ret .ret [(I 5)]) (
 .ret .ret [(I 0)]))) (
 .ret .ret [(I 0)]))))))) (
 .op .nonnil [v900] fun v58 =>
 .op (.faddr 0) [v58] fun v59 =>
 .load none v59 fun v60 =>
 .op (.eaddr 13) [v60, v901] fun v61 =>
 .op (.faddr 0) [v61] fun v62 =>
 .load none v62 fun v63 =>
 .op .nonnil [v900] fun v64 =>
 .op (.faddr 0) [v64] fun v65 =>
 .load none v65 fun v66 =>
 .op (.eaddr 13) [v66, v902] fun v67 =>
 .op (.faddr 0) [v67] fun v68 =>
 .load none v68 fun v69 =>
 .op (.int .neq) [v63, (I 1)] fun v70 =>
 .cnd v70 (
 .op (.int .neq) [v63, (I 2)] fun v71 =>
 .cnd v71 (
 .op (.int .neq) [v63, (I 4)] fun v72 =>
 .cnd v72 (
 .ret .ret [(I 4)]) (
 .op (.int .eql) [v69, (I 1)] fun v73 =>
 .cnd v73 (
 .ret .ret [(I 4)]) (
 .op (.int .eql) [v69, (I 2)] fun v74 =>
 .cnd v74 (
 .ret .ret [(I 4)]) (
 .call 226 [v900, v902, v901] fun v75 =>
 .cnd v75 (
 .ret .ret [(I 4)]) (
 .op (.int .neq) [v903, (I 0)] fun v76 =>
 .cnd v76 (
 .op (.int .eql) [v903, v902] fun v77 =>
 .cnd v77 (
 .ret .ret [(I 5)]) (
 .op .nonnil [v900] fun v78 =>
 .op (.faddr 0) [v78] fun v79 =>
 .load none v79 fun v80 =>
 .op (.eaddr 13) [v80, v903] fun v81 =>
 .op (.faddr 1) [v81] fun v82 =>
 .load none v82 fun v83 =>
 .op (.int .neq) [v83, v901] fun v84 =>
 .cnd v84 (
 .ret .ret [(I 5)]) (
 .ret .ret [(I 0)]))) (
 .ret .ret [(I 0)])))))) (
 .op (.int .eql) [v69, (I 1)] fun v85 =>
 .cnd v85 (
 .ret .ret [(I 4)]) (
 .op (.int .eql) [v69, (I 2)] fun v86 =>
 .cnd v86 (
 .ret .ret [(I 4)]) (
 .call 226 [v900, v902, v901] fun v87 =>
 .cnd v87 (
 .ret .ret [(I 4)]) (
 .op (.int .neq) [v903, (I 0)] fun v88 =>
 .cnd v88 (
 .op (.int .eql) [v903, v902] fun v89 =>
 .cnd v89 (
 .ret .ret [(I 5)]) (
 .op .nonnil [v900] fun v90 =>
 .op (.faddr 0) [v90] fun v91 =>
 .load none v91 fun v92 =>
 .op (.eaddr 13) [v92, v903] fun v93 =>
 .op (.faddr 1) [v93] fun v94 =>
 .load none v94 fun v95 =>
 .op (.int .neq) [v95, v901] fun v96 =>
 .cnd v96 (
 .ret .ret [(I 5)]) (
 .ret .ret [(I 0)]))) (
 .ret .ret [(I 0)])))))) (
 .op (.int .eql) [v69, (I 1)] fun v97 =>
 .cnd v97 (
 .ret .ret [(I 4)]) (
 .op (.int .eql) [v69, (I 2)] fun v98 =>
 .cnd v98 (
 .ret .ret [(I 4)]) (
 .call 226 [v900, v902, v901] fun v99 =>
 .cnd v99 (
 .ret .ret [(I 4)]) (
 .op (.int .neq) [v903, (I 0)] fun v100 =>
 .cnd v100 (
 .op (.int .eql) [v903, v902] fun v101 =>
 .cnd v101 (
 .ret .ret [(I 5)]) (
 .op .nonnil [v900] fun v102 =>
 .op (.faddr 0) [v102] fun v103 =>
 .load none v103 fun v104 =>
 .op (.eaddr 13) [v104, v903] fun v105 =>
 .op (.faddr 1) [v105] fun v106 =>
 .load none v106 fun v107 =>
 .op (.int .neq) [v107, v901] fun v108 =>
 .cnd v108 (
 .ret .ret [(I 5)]) (
 .ret .ret [(I 0)]))) (
 .ret .ret [(I 0)]))))))))
theorem t202_eq (v900 v901 v902 v903 : AVal) : afun cx 202 [v900, v901, v902, v903] = t202 v900 v901 v902 v903 := by kernel_rfl
def t203 (v900 v901 : AVal) : IT :=
 .call 159 [v900, v901] fun v0 =>
 .op (.un .not) [v0] fun v1 =>
 .cnd v1 (
 .ret .ret [(I 3)]) (
 .op .nonnil [v900] fun v2 =>
 .op (.faddr 0) [v2] fun v3 =>
 .load none v3 fun v4 =>
 .op (.eaddr 13) [v4, v901] fun v5 =>
 .op (.faddr 1) [v5] fun v6 =>
 .load none v6 fun v7 =>
 .op (.int .neq) [v7, (I 0)] fun v8 =>
 .cnd v8 (
 .op .nonnil [v900] fun v9 =>
 .op (.faddr 0) [v9] fun v10 =>
 .load none v10 fun v11 =>
 .op .nonnil [v900] fun v12 =>
 .op (.faddr 0) [v12] fun v13 =>
 .load none v13 fun v14 =>
 .op (.eaddr 13) [v14, v7] fun v15 =>
 .op (.faddr 2) [v15] fun v16 =>
 .load none v16 fun v17 =>
 .call 227 [v17, v901] fun v18 =>
 .load none v10 fun v19 =>
 .same v11 v19 (
 .op (.eaddr 13) [v11, v7] fun v20 =>
 .op (.faddr 2) [v20] fun v21 =>
 .store 1 v21 v18 (
 .op .nonnil [v900] fun v22 =>
 .op (.faddr 0) [v22] fun v23 =>
 .load none v23 fun v24 =>
 .op (.eaddr 13) [v24, v901] fun v25 =>
 .op (.faddr 1) [v25] fun v26 =>
 .store 1 v26 (I 0) (
 .ret .ret [(I 0)])))) (
 .ret .ret [(I 0)]))
theorem t203_eq (v900 v901 : AVal) : afun cx 203 [v900, v901] = t203 v900 v901 := by kernel_rfl
def t204 (v900 v901 : AVal) : IT :=
 .loop 2 [ff, (I 0)] (fun c0 =>
 .op (.len true) [v900] fun v1 =>
 .op (.int .lss) [(g c0 1), v1] fun v2 =>
 .cnd v2 (
 .op .sidx [v900, (g c0 1)] fun v3 =>
 .op (.int .eql) [v3, v901] fun v4 =>
 .cnd v4 (
 .ret .ret [tt, (g c0 1)]) (
 .op (.int .add) [(g c0 1), (I 1)] fun v5 =>
 .ret .normal [(g c0 0), v5])) (
 .ret (.exit 0) [(g c0 0), (g c0 1)])) (
 fun x c6 => match x with
 | .normal =>
 .fail
 | .exit i =>
 if i = 0 then
 .ret .ret [ff]
 else
 .fail
 | .ret =>
 .ret .ret [(g c6 0)])
theorem t204_eq (v900 v901 : AVal) : afun cx 204 [v900, v901] = t204 v900 v901 := by kernel_rfl
def t205 (v900 : AVal) : IT :=
 .op (.int .geq) [v900, (.int .u8 65)] fun v0 =>
 .cnd v0 (
 .op (.int .leq) [v900, (.int .u8 90)] fun v1 =>
 .ret .ret [v1]) (
 .ret .ret [ff])
theorem t205_eq (v900 : AVal) : afun cx 205 [v900] = t205 v900 := by kernel_rfl
def t206 (v900 v901 : AVal) : IT :=
 .op (.int .sub) [v901, (I 1)] fun v0 =>
 .loop 2 [(I 0), v0] (fun c1 =>
 .op (.int .geq) [(g c1 1), (I 0)] fun v2 =>
 .cnd v2 (
 .op .nonnil [v900] fun v3 =>
 .op (.faddr 2) [v3] fun v4 =>
 .load none v4 fun v5 =>
 .op (.eaddr 4) [v5, (g c1 1)] fun v6 =>
 .load (some 4) v6 fun v7 =>
 .op (.mksl 1) [(S [116,101,109,112,108,97,116,101])] fun v8 =>
 .call 228 [v7, v8] fun v9 =>
 .cnd v9 (
 .ret .ret [(I 16), (g c1 1)]) (
 .op .nonnil [v900] fun v10 =>
 .op (.faddr 2) [v10] fun v11 =>
 .load none v11 fun v12 =>
 .op (.eaddr 4) [v12, (g c1 1)] fun v13 =>
 .load (some 4) v13 fun v14 =>
 .op (.mksl 1) [(S [116,97,98,108,101])] fun v15 =>
 .call 228 [v14, v15] fun v16 =>
 .cnd v16 (
 .ret .ret [(I 17), (g c1 1)]) (
 .op (.int .sub) [(g c1 1), (I 1)] fun v17 =>
 .ret .normal [(g c1 0), v17]))) (
 .ret (.exit 0) [(g c1 0), (g c1 1)])) (
 fun x c18 => match x with
 | .normal =>
 .fail
 | .exit i =>
 if i = 0 then
 .ret .ret [(I 16)]
 else
 .fail
 | .ret =>
 .ret .ret [(g c18 0)])
theorem t206_eq (v900 v901 : AVal) : afun cx 206 [v900, v901] = t206 v900 v901 := by kernel_rfl
def t207 (v900 v901 : AVal) : IT :=
 .cells 13 v900 fun c0 =>
 .cells 13 v901 fun c1 =>
 .op (.int .eql) [(g c0 0), (g c1 0)] fun v2 =>
 .cnd v2 (
 .op (.int .eql) [(g c0 4), (g c1 4)] fun v3 =>
 .cnd v3 (
 .op (.str .eql) [(g c0 5), (g c1 5)] fun v4 =>
 .cnd v4 (
 .call 24 [(g c0 6), (g c1 6)] fun v5 =>
 .cnd v5 (
 .op (.str .eql) [(g c0 7), (g c1 7)] fun v6 =>
 .cnd v6 (
 .op (.str .eql) [(g c0 8), (g c1 8)] fun v7 =>
 .cnd v7 (
 .op (.str .eql) [(g c0 9), (g c1 9)] fun v8 =>
 .cnd v8 (
 .op (.beq false) [(g c0 10), (g c1 10)] fun v9 =>
 .ret .ret [v9]) (
 .ret .ret [ff])) (
 .ret .ret [ff])) (
 .ret .ret [ff])) (
 .ret .ret [ff])) (
 .ret .ret [ff])) (
 .ret .ret [ff])) (
 .ret .ret [ff])
theorem t207_eq (v900 v901 : AVal) : afun cx 207 [v900, v901] = t207 v900 v901 := by kernel_rfl
def t208 (v900 : AVal) : IT :=
 .loop 5 [(I 0), (I 1), (.int .u8 0), (I 0)] (fun c0 =>
 .op (.len true) [v900] fun v1 =>
 .op (.int .lss) [(g c0 3), v1] fun v2 =>
 .cnd v2 (
 .op .sidx [v900, (g c0 3)] fun v3 =>
 .op (.int .or) [(g c0 2), v3] fun v4 =>
 .op (.aaddr 256 1) [(.rptr spaceCells), v3] fun v5 =>
 .load none v5 fun v6 =>
 .op (.conv .i64) [v6] fun v7 =>
 .op (.un .xor) [v7] fun v8 =>
 .op (.int .and) [(g c0 1), v8] fun v9 =>
 .op (.int .add) [(g c0 0), v9] fun v10 =>
 .op (.int .add) [(g c0 3), (I 1)] fun v11 =>
 .ret .normal [v10, v7, v4, v11]) (
 .ret (.exit 0) [(g c0 0), (g c0 1), (g c0 2), (g c0 3)])) (
 fun x c12 => match x with
 | .normal =>
 .fail
 | .exit i =>
 if i = 0 then
 .op (.int .geq) [(g c12 2), (.int .u8 128)] fun v13 =>
 .cnd v13 (
 .call 229 [v900, (.func (.func 230) [] [])] fun v14 =>
 .frz v14 fun v15 =>
 .ret .ret [v15]) (
 .make 1 16 [(S [])] (g c12 0) (g c12 0) fun v16 =>
 .loop 18 [(I 0)] (fun c17 =>
 .op (.len true) [v900] fun v18 =>
 .op (.int .lss) [(g c17 0), v18] fun v19 =>
 .cnd v19 (
 .op .sidx [v900, (g c17 0)] fun v20 =>
 .op (.aaddr 256 1) [(.rptr spaceCells), v20] fun v21 =>
 .load none v21 fun v22 =>
 .op (.int .neq) [v22, (.int .u8 0)] fun v23 =>
 .cnd v23 (
 .op (.int .add) [(g c17 0), (I 1)] fun v24 =>
 .ret .normal [v24]) (
 .ret (.exit 2) [(g c17 0)])) (
 .ret (.exit 2) [(g c17 0)])) (
 fun x c25 => match x with
 | .normal =>
 .fail
 | .exit i =>
 if i = 2 then
 .loop 21 [(I 0), (g c25 0), (g c25 0)] (fun c26 =>
 .op (.len true) [v900] fun v27 =>
 .op (.int .lss) [(g c26 2), v27] fun v28 =>
 .cnd v28 (
 .op .sidx [v900, (g c26 2)] fun v29 =>
 .op (.aaddr 256 1) [(.rptr spaceCells), v29] fun v30 =>
 .load none v30 fun v31 =>
 .op (.int .eql) [v31, (.int .u8 0)] fun v32 =>
 .cnd v32 (
 .op (.int .add) [(g c26 2), (I 1)] fun v33 =>
 .ret .normal [(g c26 0), (g c26 1), v33]) (
 .op (.slc 0 true true true) [v900, (g c26 1), (g c26 2)] fun v34 =>
 .op (.eaddr 1) [v16, (g c26 0)] fun v35 =>
 .store 1 v35 v34 (
 .op (.int .add) [(g c26 0), (I 1)] fun v36 =>
 .op (.int .add) [(g c26 2), (I 1)] fun v37 =>
 .loop 27 [v37] (fun c38 =>
 .op (.len true) [v900] fun v39 =>
 .op (.int .lss) [(g c38 0), v39] fun v40 =>
 .cnd v40 (
 .op .sidx [v900, (g c38 0)] fun v41 =>
 .op (.aaddr 256 1) [(.rptr spaceCells), v41] fun v42 =>
 .load none v42 fun v43 =>
 .op (.int .neq) [v43, (.int .u8 0)] fun v44 =>
 .cnd v44 (
 .op (.int .add) [(g c38 0), (I 1)] fun v45 =>
 .ret .normal [v45]) (
 .ret (.exit 6) [(g c38 0)])) (
 .ret (.exit 6) [(g c38 0)])) (
 fun x c46 => match x with
 | .normal =>
 .fail
 | .exit i =>
 if i = 6 then
 .ret .normal [v36, (g c46 0), (g c46 0)]
 else
 if i = 5 then
 .ret .normal [v36, (g c26 1), (g c46 0)]
 else
 .ret (.exit i) [v36, (g c26 1), (g c46 0)]
 | .ret =>
 .ret .ret [v36, (g c26 1), (g c46 0)])))) (
 .ret (.exit 4) [(g c26 0), (g c26 1), (g c26 2)])) (
 fun x c47 => match x with
 | .normal =>
 .fail
 | .exit i =>
 if i = 4 then
 .op (.len true) [v900] fun v48 =>
 .op (.int .lss) [(g c47 1), v48] fun v49 =>
 .cnd v49 (
 .op (.slc 0 true true false) [v900, (g c47 1)] fun v50 =>
 .op (.eaddr 1) [v16, (g c47 0)] fun v51 =>
 .store 1 v51 v50 (
 .frz v16 fun v52 =>
 .ret .ret [v52])) (
 .frz v16 fun v53 =>
 .ret .ret [v53])
 else
 .fail
 | .ret =>
 .frz .slnil fun v54 =>
 .ret .ret [v54])
 else
 .fail
 | .ret =>
 .frz .slnil fun v55 =>
 .ret .ret [v55]))
 else
 .fail
 | .ret =>
 .frz .slnil fun v56 =>
 .ret .ret [v56])
theorem t208_eq (v900 : AVal) : afun cx 208 [v900] = t208 v900 := by kernel_rfl
def t210 (v900 v901 v902 : AVal) : IT :=
 .op (.len false) [v900] fun v0 =>
 .mem (.chk3 1) [v900, v901, v902, v0] fun v1 =>
 .op (.int .eql) [v901, v902] fun v2 =>
 .cnd v2 (
 .ret .ret [v900]) (
 .op (.len false) [v900] fun v3 =>
 .op (.slc 1 false false true) [v900, v901] fun v4 =>
 .op (.slc 1 false true false) [v900, v902] fun v5 =>
 .grow 1 8 v4 v5 fun v6 =>
 .op (.len false) [v6] fun v7 =>
 .mem (.deep 1 true true) [v6, v7, v3] fun v8 =>
 .mem (.clear 1 [(I 0)]) [v8] fun v9 =>
 .ret .ret [v6])
theorem t210_eq (v900 v901 v902 : AVal) : afun cx 210 [v900, v901, v902] = t210 v900 v901 v902 := by kernel_rfl
def t213 (v900 : AVal) : IT :=
 .call 233 [(.int .i32 65), (.int .i32 90)] fun v0 =>
 .callv v0 [v900] fun v1 =>
 .ret .ret [v1]
theorem t213_eq (v900 : AVal) : afun cx 213 [v900] = t213 v900 := by kernel_rfl
def t214 (v900 : AVal) : IT :=
 .cells 1 v900 fun c0 =>
 .op (.int .eql) [(g c0 0), (I 4)] fun v1 =>
 .cnd v1 (
 .ret .ret [(.func (.func 234) [] [])]) (
 .op (.int .eql) [(g c0 0), (I 5)] fun v2 =>
 .cnd v2 (
 .ret .ret [(.func (.func 235) [] [])]) (
 .ret .ret [(.func (.func 236) [] [(.rptr [(g c0 0)])])]))
theorem t214_eq (v900 : AVal) : afun cx 214 [v900] = t214 v900 := by kernel_rfl
def t215 (v900 v901 v902 : AVal) : IT :=
 .cells 4 v900 fun c0 =>
 .load none v901 fun v1 =>
 .callv v1 [(.agg [(g c0 0), (g c0 1), (g c0 2), (g c0 3)])] fun v2 =>
 .cnd v2 (
 .ret .ret [tt]) (
 .load none v902 fun v3 =>
 .callv v3 [(.agg [(g c0 0), (g c0 1), (g c0 2), (g c0 3)])] fun v4 =>
 .ret .ret [v4])
theorem t215_eq (v900 v901 v902 : AVal) : afun cx 215 [v900, v901, v902] = t215 v900 v901 v902 := by kernel_rfl
def t216 (v900 v901 : AVal) : IT :=
 .cells 3 v901 fun c0 =>
 .op (.len false) [v900] fun v1 =>
 .loop 2 [(I 0), (I 0)] (fun c2 =>
 .op (.int .lss) [(g c2 1), v1] fun v3 =>
 .cnd v3 (
 .op (.eaddr 3) [v900, (g c2 1)] fun v4 =>
 .load (some 3) v4 fun v5 =>
 .op (.geq false [.i, .s, .s]) [(.agg [(g c0 0), (g c0 1), (g c0 2)]), v5] fun v6 =>
 .cnd v6 (
 .ret .ret [(g c2 1), (g c2 1)]) (
 .op (.int .add) [(g c2 1), (I 1)] fun v7 =>
 .ret .normal [(g c2 0), v7])) (
 .ret (.exit 0) [(g c2 0), (g c2 1)])) (
 fun x c8 => match x with
 | .normal =>
 .fail
 | .exit i =>
 if i = 0 then
 .ret .ret [(I (-1))]
 else
 .fail
 | .ret =>
 .ret .ret [(g c8 0)])
theorem t216_eq (v900 v901 : AVal) : afun cx 216 [v900, v901] = t216 v900 v901 := by kernel_rfl
def t217 (v900 : AVal) : IT :=
 .op (.nileq false .sl) [v900, .slnil] fun v0 =>
 .cnd v0 (
 .ret .ret [.slnil]) (
 .op (.mksl 4) [] fun v1 =>
 .objOf 4 40 v1 v900 fun v2 =>
 .ret .ret [v2])
theorem t217_eq (v900 : AVal) : afun cx 217 [v900] = t217 v900 := by kernel_rfl
def t226 (v900 v901 v902 : AVal) : IT :=
 .call 159 [v900, v901] fun v0 =>
 .op (.un .not) [v0] fun v1 =>
 .cnd v1 (
 .ret .ret [ff]) (
 .call 159 [v900, v902] fun v2 =>
 .op (.un .not) [v2] fun v3 =>
 .cnd v3 (
 .ret .ret [ff]) (
 .loop 3 [v902, ff] (fun c4 =>
 .op (.int .neq) [(g c4 0), (I 0)] fun v5 =>
 .cnd v5 (
 .op (.int .eql) [(g c4 0), v901] fun v6 =>
 .cnd v6 (
 .ret .ret [(g c4 0), tt]) (
 .call 241 [v900, (g c4 0)] fun v7 =>
 .ret .normal [v7, (g c4 1)])) (
 .ret (.exit 0) [(g c4 0), (g c4 1)])) (
 fun x c8 => match x with
 | .normal =>
 .fail
 | .exit i =>
 if i = 0 then
 .ret .ret [ff]
 else
 .fail
 | .ret =>
 .ret .ret [(g c8 1)])))
theorem t226_eq (v900 v901 v902 : AVal) : afun cx 226 [v900, v901, v902] = t226 v900 v901 v902 := by kernel_rfl
def t227 (v900 v901 : AVal) : IT :=
 .loop 3 [.slnil, (I 0)] (fun c0 =>
 .op (.len false) [v900] fun v1 =>
 .op (.int .lss) [(g c0 1), v1] fun v2 =>
 .cnd v2 (
 .op (.eaddr 1) [v900, (g c0 1)] fun v3 =>
 .load none v3 fun v4 =>
 .op (.int .neq) [v4, v901] fun v5 =>
 .cnd v5 (
 .op (.eaddr 1) [v900, (g c0 1)] fun v6 =>
 .load none v6 fun v7 =>
 .op (.mksl 1) [v7] fun v8 =>
 .op (.append 1 8) [(g c0 0), v8] fun v9 =>
 .op (.int .add) [(g c0 1), (I 1)] fun v10 =>
 .ret .normal [v9, v10]) (
 .op (.int .add) [(g c0 1), (I 1)] fun v11 =>
 .ret .normal [(g c0 0), v11])) (
 .ret (.exit 0) [(g c0 0), (g c0 1)])) (
 fun x c12 => match x with
 | .normal =>
 .fail
 | .exit i =>
 if i = 0 then
 .ret .ret [(g c12 0)]
 else
 .fail
 | .ret =>
 .ret .ret [.slnil])
theorem t227_eq (v900 v901 : AVal) : afun cx 227 [v900, v901] = t227 v900 v901 := by kernel_rfl
def t228 (v900 v901 : AVal) : IT :=
 .cells 4 v900 fun c0 =>
 .op (.int .neq) [(g c0 1), (I 1)] fun v1 =>
 .cnd v1 (
 .ret .ret [ff]) (
 .loop 4 [ff, (I 0)] (fun c2 =>
 .op (.len false) [v901] fun v3 =>
 .op (.int .lss) [(g c2 1), v3] fun v4 =>
 .cnd v4 (
 .op (.eaddr 1) [v901, (g c2 1)] fun v5 =>
 .load none v5 fun v6 =>
 .op (.str .eql) [v6, (g c0 2)] fun v7 =>
 .cnd v7 (
 .ret .ret [tt, (g c2 1)]) (
 .op (.int .add) [(g c2 1), (I 1)] fun v8 =>
 .ret .normal [(g c2 0), v8])) (
 .ret (.exit 0) [(g c2 0), (g c2 1)])) (
 fun x c9 => match x with
 | .normal =>
 .fail
 | .exit i =>
 if i = 0 then
 .ret .ret [ff]
 else
 .fail
 | .ret =>
 .ret .ret [(g c9 0)]))
theorem t228_eq (v900 v901 : AVal) : afun cx 228 [v900, v901] = t228 v900 v901 := by kernel_rfl
def t229 (v900 v901 : AVal) : IT :=
 .make 2 16 [(I 0), (I 0)] (I 0) (I 32) fun v0 =>
 .fail
theorem t229_eq (v900 v901 : AVal) : afun cx 229 [v900, v901] = t229 v900 v901 := by kernel_rfl
def t233 (v900 v901 : AVal) : IT :=
 .cells 1 v900 fun c0 =>
 .cells 1 v901 fun c1 =>
 .ret .ret [(.func (.func 244) [] [(.rptr [(g c0 0)]), (.rptr [(g c1 0)])])]
theorem t233_eq (v900 v901 : AVal) : afun cx 233 [v900, v901] = t233 v900 v901 := by kernel_rfl
def t234 (v900 : AVal) : IT :=
 .cells 4 v900 fun c0 =>
 .op (.mksl 1) [(S [104,116,109,108]), (S [116,97,98,108,101]), (S [116,101,109,112,108,97,116,101])] fun v1 =>
 .call 131 [(.agg [(g c0 0), (g c0 1), (g c0 2), (g c0 3)]), v1] fun v2 =>
 .ret .ret [v2]
theorem t234_eq (v900 : AVal) : afun cx 234 [v900] = t234 v900 := by kernel_rfl
def t235 (v900 : AVal) : IT :=
 .cells 4 v900 fun c0 =>
 .op (.mksl 1) [(S [111,112,116,103,114,111,117,112]), (S [111,112,116,105,111,110])] fun v1 =>
 .call 131 [(.agg [(g c0 0), (g c0 1), (g c0 2), (g c0 3)]), v1] fun v2 =>
 .op (.un .not) [v2] fun v3 =>
 .ret .ret [v3]
theorem t235_eq (v900 : AVal) : afun cx 235 [v900] = t235 v900 := by kernel_rfl
def t236 (v900 v901 : AVal) : IT :=
 .cells 4 v900 fun c0 =>
 .op (.int .eql) [(g c0 1), (I 3)] fun v1 =>
 .cnd v1 (
 .pcall 107 [(g c0 1), (g c0 2)] fun v2 =>
 .ret .ret [v2]) (
 .op (.int .eql) [(g c0 1), (I 2)] fun v3 =>
 .cnd v3 (
 .pcall 107 [(g c0 1), (g c0 2)] fun v4 =>
 .ret .ret [v4]) (
 .op (.mksl 1) [(S [97,112,112,108,101,116]), (S [99,97,112,116,105,111,110]), (S [104,116,109,108]), (S [109,97,114,113,117,101,101]), (S [111,98,106,101,99,116]), (S [116,97,98,108,101]), (S [116,100]), (S [116,101,109,112,108,97,116,101]), (S [116,104])] fun v5 =>
 .call 131 [(.agg [(g c0 0), (g c0 1), (g c0 2), (g c0 3)]), v5] fun v6 =>
 .cnd v6 (
 .ret .ret [tt]) (
 .load none v901 fun v7 =>
 .op (.int .eql) [v7, (I 2)] fun v8 =>
 .cnd v8 (
 .op (.mksl 1) [(S [111,108]), (S [117,108])] fun v9 =>
 .call 131 [(.agg [(g c0 0), (g c0 1), (g c0 2), (g c0 3)]), v9] fun v10 =>
 .cnd v10 (
 .ret .ret [tt]) (
 .load none v901 fun v11 =>
 .op (.int .eql) [v11, (I 3)] fun v12 =>
 .cnd v12 (
 .op (.mksl 1) [(S [98,117,116,116,111,110])] fun v13 =>
 .call 131 [(.agg [(g c0 0), (g c0 1), (g c0 2), (g c0 3)]), v13] fun v14 =>
 .ret .ret [v14]) (
 .ret .ret [ff]))) (
 .load none v901 fun v15 =>
 .op (.int .eql) [v15, (I 3)] fun v16 =>
 .cnd v16 (
 .op (.mksl 1) [(S [98,117,116,116,111,110])] fun v17 =>
 .call 131 [(.agg [(g c0 0), (g c0 1), (g c0 2), (g c0 3)]), v17] fun v18 =>
 .ret .ret [v18]) (
 .ret .ret [ff])))))
theorem t236_eq (v900 v901 : AVal) : afun cx 236 [v900, v901] = t236 v900 v901 := by kernel_rfl
def t239 (v900 : AVal) : IT :=
 .call 247 [v900] fun v0 =>
 .op .nonnil [v900] fun v1 =>
 .op (.faddr 3) [v1] fun v2 =>
 .store 1 v2 v0 (
 .op .nonnil [v900] fun v3 =>
 .op (.faddr 4) [v3] fun v4 =>
 .store 1 v4 .slnil (
 .ret .ret [(.tuple [])]))
theorem t239_eq (v900 : AVal) : afun cx 239 [v900] = t239 v900 := by kernel_rfl
def t241 (v900 v901 : AVal) : IT :=
 .op .nonnil [v900] fun v0 =>
 .op (.faddr 0) [v0] fun v1 =>
 .load none v1 fun v2 =>
 .op (.eaddr 13) [v2, v901] fun v3 =>
 .op (.faddr 1) [v3] fun v4 =>
 .load none v4 fun v5 =>
 .op (.int .neq) [v5, (I 0)] fun v6 =>
 .cnd v6 (
 .op .nonnil [v900] fun v7 =>
 .op (.faddr 0) [v7] fun v8 =>
 .load none v8 fun v9 =>
 .op (.eaddr 13) [v9, v901] fun v10 =>
 .op (.faddr 1) [v10] fun v11 =>
 .load none v11 fun v12 =>
 .ret .ret [v12]) (
 .op .nonnil [v900] fun v13 =>
 .op (.faddr 0) [v13] fun v14 =>
 .load none v14 fun v15 =>
 .op (.eaddr 13) [v15, v901] fun v16 =>
 .op (.faddr 12) [v16] fun v17 =>
 .load none v17 fun v18 =>
 .ret .ret [v18])
theorem t241_eq (v900 v901 : AVal) : afun cx 241 [v900, v901] = t241 v900 v901 := by kernel_rfl
def t244 (v900 v901 v902 : AVal) : IT :=
 .load none v901 fun v0 =>
 .op (.int .leq) [v0, v900] fun v1 =>
 .cnd v1 (
 .load none v902 fun v2 =>
 .op (.int .leq) [v900, v2] fun v3 =>
 .ret .ret [v3]) (
 .ret .ret [ff])
theorem t244_eq (v900 v901 v902 : AVal) : afun cx 244 [v900, v901, v902] = t244 v900 v901 v902 := by kernel_rfl
def t247 (v900 : AVal) : IT :=
 .op .nonnil [v900] fun v0 =>
 .op (.faddr 4) [v0] fun v1 =>
 .load none v1 fun v2 =>
 .op (.len false) [v2] fun v3 =>
 .op (.int .eql) [v3, (I 2)] fun v4 =>
 .cnd v4 (
 .op (.eaddr 1) [v2, (I 0)] fun v5 =>
 .load none v5 fun v6 =>
 .op (.len true) [v6] fun v7 =>
 .op (.int .gtr) [v7, (I 1)] fun v8 =>
 .cnd v8 (
 .op (.eaddr 1) [v2, (I 0)] fun v9 =>
 .load none v9 fun v10 =>
 .op (.eaddr 1) [v2, (I 1)] fun v11 =>
 .load none v11 fun v12 =>
 .call 258 [v10, v12] fun v13 =>
 .mem (.mkif 306) [v13] fun v14 =>
 .ret .ret [v14]) (
 .loop 6 [.nilIface, tt, (I 0)] (fun c15 =>
 .op (.len false) [v2] fun v16 =>
 .op (.int .lss) [(g c15 2), v16] fun v17 =>
 .cnd v17 (
 .op (.eaddr 1) [v2, (g c15 2)] fun v18 =>
 .load none v18 fun v19 =>
 .op (.len true) [v19] fun v20 =>
 .op (.int .neq) [v20, (I 1)] fun v21 =>
 .cnd v21 (
 .call 259 [v2] fun v22 =>
 .mem (.mkif 308) [v22] fun v23 =>
 .ret .ret [v23, (g c15 1), (g c15 2)]) (
 .op (.int .add) [(g c15 2), (I 1)] fun v24 =>
 .op (.eaddr 1) [v2, v24] fun v25 =>
 .load none v25 fun v26 =>
 .op (.len true) [v26] fun v27 =>
 .op (.int .neq) [v27, (I 1)] fun v28 =>
 .cnd v28 (
 .op (.int .add) [(g c15 2), (I 2)] fun v29 =>
 .ret .normal [(g c15 0), ff, v29]) (
 .op (.int .add) [(g c15 2), (I 2)] fun v30 =>
 .ret .normal [(g c15 0), (g c15 1), v30]))) (
 .ret (.exit 0) [(g c15 0), (g c15 1), (g c15 2)])) (
 fun x c31 => match x with
 | .normal =>
 .fail
 | .exit i =>
 if i = 0 then
 .cnd (g c31 1) (
 .op (.mkagg [(.int .u8 0), (.int .u8 0), (.int .u8 0), (.int .u8 0), (.int .u8 0), (.int .u8 0), (.int .u8 0), (.int .u8 0), (.int .u8 0), (.int .u8 0), (.int .u8 0), (.int .u8 0), (.int .u8 0), (.int .u8 0), (.int .u8 0), (.int .u8 0), (.int .u8 0), (.int .u8 0), (.int .u8 0), (.int .u8 0), (.int .u8 0), (.int .u8 0), (.int .u8 0), (.int .u8 0), (.int .u8 0), (.int .u8 0), (.int .u8 0), (.int .u8 0), (.int .u8 0), (.int .u8 0), (.int .u8 0), (.int .u8 0), (.int .u8 0), (.int .u8 0), (.int .u8 0), (.int .u8 0), (.int .u8 0), (.int .u8 0), (.int .u8 0), (.int .u8 0), (.int .u8 0), (.int .u8 0), (.int .u8 0), (.int .u8 0), (.int .u8 0), (.int .u8 0), (.int .u8 0), (.int .u8 0), (.int .u8 0), (.int .u8 0), (.int .u8 0), (.int .u8 0), (.int .u8 0), (.int .u8 0), (.int .u8 0), (.int .u8 0), (.int .u8 0), (.int .u8 0), (.int .u8 0), (.int .u8 0), (.int .u8 0), (.int .u8 0), (.int .u8 0), (.int .u8 0), (.int .u8 0), (.int .u8 0), (.int .u8 0), (.int .u8 0), (.int .u8 0), (.int .u8 0), (.int .u8 0), (.int .u8 0), (.int .u8 0), (.int .u8 0), (.int .u8 0), (.int .u8 0), (.int .u8 0), (.int .u8 0), (.int .u8 0), (.int .u8 0), (.int .u8 0), (.int .u8 0), (.int .u8 0), (.int .u8 0), (.int .u8 0), (.int .u8 0), (.int .u8 0), (.int .u8 0), (.int .u8 0), (.int .u8 0), (.int .u8 0), (.int .u8 0), (.int .u8 0), (.int .u8 0), (.int .u8 0), (.int .u8 0), (.int .u8 0), (.int .u8 0), (.int .u8 0), (.int .u8 0), (.int .u8 0), (.int .u8 0), (.int .u8 0), (.int .u8 0), (.int .u8 0), (.int .u8 0), (.int .u8 0), (.int .u8 0), (.int .u8 0), (.int .u8 0), (.int .u8 0), (.int .u8 0), (.int .u8 0), (.int .u8 0), (.int .u8 0), (.int .u8 0), (.int .u8 0), (.int .u8 0), (.int .u8 0), (.int .u8 0), (.int .u8 0), (.int .u8 0), (.int .u8 0), (.int .u8 0), (.int .u8 0), (.int .u8 0), (.int .u8 0), (.int .u8 0), (.int .u8 0), (.int .u8 0), (.int .u8 0), (.int .u8 0), (.int .u8 0), (.int .u8 0), (.int .u8 0), (.int .u8 0), (.int .u8 0), (.int .u8 0), (.int .u8 0), (.int .u8 0), (.int .u8 0), (.int .u8 0), (.int .u8 0), (.int .u8 0), (.int .u8 0), (.int .u8 0), (.int .u8 0), (.int .u8 0), (.int .u8 0), (.int .u8 0), (.int .u8 0), (.int .u8 0), (.int .u8 0), (.int .u8 0), (.int .u8 0), (.int .u8 0), (.int .u8 0), (.int .u8 0), (.int .u8 0), (.int .u8 0), (.int .u8 0), (.int .u8 0), (.int .u8 0), (.int .u8 0), (.int .u8 0), (.int .u8 0), (.int .u8 0), (.int .u8 0), (.int .u8 0), (.int .u8 0), (.int .u8 0), (.int .u8 0), (.int .u8 0), (.int .u8 0), (.int .u8 0), (.int .u8 0), (.int .u8 0), (.int .u8 0), (.int .u8 0), (.int .u8 0), (.int .u8 0), (.int .u8 0), (.int .u8 0), (.int .u8 0), (.int .u8 0), (.int .u8 0), (.int .u8 0), (.int .u8 0), (.int .u8 0), (.int .u8 0), (.int .u8 0), (.int .u8 0), (.int .u8 0), (.int .u8 0), (.int .u8 0), (.int .u8 0), (.int .u8 0), (.int .u8 0), (.int .u8 0), (.int .u8 0), (.int .u8 0), (.int .u8 0), (.int .u8 0), (.int .u8 0), (.int .u8 0), (.int .u8 0), (.int .u8 0), (.int .u8 0), (.int .u8 0), (.int .u8 0), (.int .u8 0), (.int .u8 0), (.int .u8 0), (.int .u8 0), (.int .u8 0), (.int .u8 0), (.int .u8 0), (.int .u8 0), (.int .u8 0), (.int .u8 0), (.int .u8 0), (.int .u8 0), (.int .u8 0), (.int .u8 0), (.int .u8 0), (.int .u8 0), (.int .u8 0), (.int .u8 0), (.int .u8 0), (.int .u8 0), (.int .u8 0), (.int .u8 0), (.int .u8 0), (.int .u8 0), (.int .u8 0), (.int .u8 0), (.int .u8 0), (.int .u8 0), (.int .u8 0), (.int .u8 0), (.int .u8 0), (.int .u8 0), (.int .u8 0), (.int .u8 0), (.int .u8 0), (.int .u8 0), (.int .u8 0), (.int .u8 0), (.int .u8 0), (.int .u8 0), (.int .u8 0), (.int .u8 0), (.int .u8 0), (.int .u8 0), (.int .u8 0), (.int .u8 0)] []) [] fun v32 =>
 .alloc 256 (.agg [(.int .u8 0), (.int .u8 0), (.int .u8 0), (.int .u8 0), (.int .u8 0), (.int .u8 0), (.int .u8 0), (.int .u8 0), (.int .u8 0), (.int .u8 0), (.int .u8 0), (.int .u8 0), (.int .u8 0), (.int .u8 0), (.int .u8 0), (.int .u8 0), (.int .u8 0), (.int .u8 0), (.int .u8 0), (.int .u8 0), (.int .u8 0), (.int .u8 0), (.int .u8 0), (.int .u8 0), (.int .u8 0), (.int .u8 0), (.int .u8 0), (.int .u8 0), (.int .u8 0), (.int .u8 0), (.int .u8 0), (.int .u8 0), (.int .u8 0), (.int .u8 0), (.int .u8 0), (.int .u8 0), (.int .u8 0), (.int .u8 0), (.int .u8 0), (.int .u8 0), (.int .u8 0), (.int .u8 0), (.int .u8 0), (.int .u8 0), (.int .u8 0), (.int .u8 0), (.int .u8 0), (.int .u8 0), (.int .u8 0), (.int .u8 0), (.int .u8 0), (.int .u8 0), (.int .u8 0), (.int .u8 0), (.int .u8 0), (.int .u8 0), (.int .u8 0), (.int .u8 0), (.int .u8 0), (.int .u8 0), (.int .u8 0), (.int .u8 0), (.int .u8 0), (.int .u8 0), (.int .u8 0), (.int .u8 0), (.int .u8 0), (.int .u8 0), (.int .u8 0), (.int .u8 0), (.int .u8 0), (.int .u8 0), (.int .u8 0), (.int .u8 0), (.int .u8 0), (.int .u8 0), (.int .u8 0), (.int .u8 0), (.int .u8 0), (.int .u8 0), (.int .u8 0), (.int .u8 0), (.int .u8 0), (.int .u8 0), (.int .u8 0), (.int .u8 0), (.int .u8 0), (.int .u8 0), (.int .u8 0), (.int .u8 0), (.int .u8 0), (.int .u8 0), (.int .u8 0), (.int .u8 0), (.int .u8 0), (.int .u8 0), (.int .u8 0), (.int .u8 0), (.int .u8 0), (.int .u8 0), (.int .u8 0), (.int .u8 0), (.int .u8 0), (.int .u8 0), (.int .u8 0), (.int .u8 0), (.int .u8 0), (.int .u8 0), (.int .u8 0), (.int .u8 0), (.int .u8 0), (.int .u8 0), (.int .u8 0), (.int .u8 0), (.int .u8 0), (.int .u8 0), (.int .u8 0), (.int .u8 0), (.int .u8 0), (.int .u8 0), (.int .u8 0), (.int .u8 0), (.int .u8 0), (.int .u8 0), (.int .u8 0), (.int .u8 0), (.int .u8 0), (.int .u8 0), (.int .u8 0), (.int .u8 0), (.int .u8 0), (.int .u8 0), (.int .u8 0), (.int .u8 0), (.int .u8 0), (.int .u8 0), (.int .u8 0), (.int .u8 0), (.int .u8 0), (.int .u8 0), (.int .u8 0), (.int .u8 0), (.int .u8 0), (.int .u8 0), (.int .u8 0), (.int .u8 0), (.int .u8 0), (.int .u8 0), (.int .u8 0), (.int .u8 0), (.int .u8 0), (.int .u8 0), (.int .u8 0), (.int .u8 0), (.int .u8 0), (.int .u8 0), (.int .u8 0), (.int .u8 0), (.int .u8 0), (.int .u8 0), (.int .u8 0), (.int .u8 0), (.int .u8 0), (.int .u8 0), (.int .u8 0), (.int .u8 0), (.int .u8 0), (.int .u8 0), (.int .u8 0), (.int .u8 0), (.int .u8 0), (.int .u8 0), (.int .u8 0), (.int .u8 0), (.int .u8 0), (.int .u8 0), (.int .u8 0), (.int .u8 0), (.int .u8 0), (.int .u8 0), (.int .u8 0), (.int .u8 0), (.int .u8 0), (.int .u8 0), (.int .u8 0), (.int .u8 0), (.int .u8 0), (.int .u8 0), (.int .u8 0), (.int .u8 0), (.int .u8 0), (.int .u8 0), (.int .u8 0), (.int .u8 0), (.int .u8 0), (.int .u8 0), (.int .u8 0), (.int .u8 0), (.int .u8 0), (.int .u8 0), (.int .u8 0), (.int .u8 0), (.int .u8 0), (.int .u8 0), (.int .u8 0), (.int .u8 0), (.int .u8 0), (.int .u8 0), (.int .u8 0), (.int .u8 0), (.int .u8 0), (.int .u8 0), (.int .u8 0), (.int .u8 0), (.int .u8 0), (.int .u8 0), (.int .u8 0), (.int .u8 0), (.int .u8 0), (.int .u8 0), (.int .u8 0), (.int .u8 0), (.int .u8 0), (.int .u8 0), (.int .u8 0), (.int .u8 0), (.int .u8 0), (.int .u8 0), (.int .u8 0), (.int .u8 0), (.int .u8 0), (.int .u8 0), (.int .u8 0), (.int .u8 0), (.int .u8 0), (.int .u8 0), (.int .u8 0), (.int .u8 0), (.int .u8 0), (.int .u8 0), (.int .u8 0), (.int .u8 0), (.int .u8 0), (.int .u8 0), (.int .u8 0), (.int .u8 0), (.int .u8 0), (.int .u8 0), (.int .u8 0), (.int .u8 0), (.int .u8 0), (.int .u8 0), (.int .u8 0), (.int .u8 0), (.int .u8 0), (.int .u8 0)]) fun v33 =>
 .store 256 v33 v32 (
 .loop 15 [(I 0)] (fun c34 =>
 .op (.int .lss) [(g c34 0), (I 256)] fun v35 =>
 .cnd v35 (
 .op (.conv .u8) [(g c34 0)] fun v36 =>
 .op (.aaddr 256 1) [v33, (g c34 0)] fun v37 =>
 .store 1 v37 v36 (
 .op (.int .add) [(g c34 0), (I 1)] fun v38 =>
 .ret .normal [v38])) (
 .ret (.exit 2) [(g c34 0)])) (
 fun x c39 => match x with
 | .normal =>
 .fail
 | .exit i =>
 if i = 2 then
 .op (.len false) [v2] fun v40 =>
 .op (.int .sub) [v40, (I 2)] fun v41 =>
 .loop 20 [v41] (fun c42 =>
 .op (.int .geq) [(g c42 0), (I 0)] fun v43 =>
 .cnd v43 (
 .op (.eaddr 1) [v2, (g c42 0)] fun v44 =>
 .load none v44 fun v45 =>
 .op .sidx [v45, (I 0)] fun v46 =>
 .op (.int .add) [(g c42 0), (I 1)] fun v47 =>
 .op (.eaddr 1) [v2, v47] fun v48 =>
 .load none v48 fun v49 =>
 .op .sidx [v49, (I 0)] fun v50 =>
 .op (.aaddr 256 1) [v33, v46] fun v51 =>
 .store 1 v51 v50 (
 .op (.int .sub) [(g c42 0), (I 2)] fun v52 =>
 .ret .normal [v52])) (
 .ret (.exit 4) [(g c42 0)])) (
 fun x c53 => match x with
 | .normal =>
 .fail
 | .exit i =>
 if i = 4 then
 .mem (.mkif 311) [v33] fun v54 =>
 .ret .ret [v54]
 else
 .fail
 | .ret =>
 .ret .ret [(g c31 0)])
 else
 .fail
 | .ret =>
 .ret .ret [(g c31 0)]))) (
 .op (.len false) [v2] fun v55 =>
 .op (.int .quo) [v55, (I 2)] fun v56 =>
 .make 1 16 [(S [])] (I 0) v56 fun v57 =>
 .op (.mkagg [.slnil, .slnil, .slnil, .slnil, .slnil, .slnil, .slnil, .slnil, .slnil, .slnil, .slnil, .slnil, .slnil, .slnil, .slnil, .slnil, .slnil, .slnil, .slnil, .slnil, .slnil, .slnil, .slnil, .slnil, .slnil, .slnil, .slnil, .slnil, .slnil, .slnil, .slnil, .slnil, .slnil, .slnil, .slnil, .slnil, .slnil, .slnil, .slnil, .slnil, .slnil, .slnil, .slnil, .slnil, .slnil, .slnil, .slnil, .slnil, .slnil, .slnil, .slnil, .slnil, .slnil, .slnil, .slnil, .slnil, .slnil, .slnil, .slnil, .slnil, .slnil, .slnil, .slnil, .slnil, .slnil, .slnil, .slnil, .slnil, .slnil, .slnil, .slnil, .slnil, .slnil, .slnil, .slnil, .slnil, .slnil, .slnil, .slnil, .slnil, .slnil, .slnil, .slnil, .slnil, .slnil, .slnil, .slnil, .slnil, .slnil, .slnil, .slnil, .slnil, .slnil, .slnil, .slnil, .slnil, .slnil, .slnil, .slnil, .slnil, .slnil, .slnil, .slnil, .slnil, .slnil, .slnil, .slnil, .slnil, .slnil, .slnil, .slnil, .slnil, .slnil, .slnil, .slnil, .slnil, .slnil, .slnil, .slnil, .slnil, .slnil, .slnil, .slnil, .slnil, .slnil, .slnil, .slnil, .slnil, .slnil, .slnil, .slnil, .slnil, .slnil, .slnil, .slnil, .slnil, .slnil, .slnil, .slnil, .slnil, .slnil, .slnil, .slnil, .slnil, .slnil, .slnil, .slnil, .slnil, .slnil, .slnil, .slnil, .slnil, .slnil, .slnil, .slnil, .slnil, .slnil, .slnil, .slnil, .slnil, .slnil, .slnil, .slnil, .slnil, .slnil, .slnil, .slnil, .slnil, .slnil, .slnil, .slnil, .slnil, .slnil, .slnil, .slnil, .slnil, .slnil, .slnil, .slnil, .slnil, .slnil, .slnil, .slnil, .slnil, .slnil, .slnil, .slnil, .slnil, .slnil, .slnil, .slnil, .slnil, .slnil, .slnil, .slnil, .slnil, .slnil, .slnil, .slnil, .slnil, .slnil, .slnil, .slnil, .slnil, .slnil, .slnil, .slnil, .slnil, .slnil, .slnil, .slnil, .slnil, .slnil, .slnil, .slnil, .slnil, .slnil, .slnil, .slnil, .slnil, .slnil, .slnil, .slnil, .slnil, .slnil, .slnil, .slnil, .slnil, .slnil, .slnil, .slnil, .slnil, .slnil, .slnil, .slnil, .slnil, .slnil, .slnil, .slnil, .slnil, .slnil, .slnil, .slnil, .slnil, .slnil, .slnil, .slnil, .slnil, .slnil, .slnil, .slnil, .slnil, .slnil, .slnil, .slnil, .slnil, .slnil] [(256, 1)]) [v57] fun v58 =>
 .alloc 257 (.agg [.slnil, .slnil, .slnil, .slnil, .slnil, .slnil, .slnil, .slnil, .slnil, .slnil, .slnil, .slnil, .slnil, .slnil, .slnil, .slnil, .slnil, .slnil, .slnil, .slnil, .slnil, .slnil, .slnil, .slnil, .slnil, .slnil, .slnil, .slnil, .slnil, .slnil, .slnil, .slnil, .slnil, .slnil, .slnil, .slnil, .slnil, .slnil, .slnil, .slnil, .slnil, .slnil, .slnil, .slnil, .slnil, .slnil, .slnil, .slnil, .slnil, .slnil, .slnil, .slnil, .slnil, .slnil, .slnil, .slnil, .slnil, .slnil, .slnil, .slnil, .slnil, .slnil, .slnil, .slnil, .slnil, .slnil, .slnil, .slnil, .slnil, .slnil, .slnil, .slnil, .slnil, .slnil, .slnil, .slnil, .slnil, .slnil, .slnil, .slnil, .slnil, .slnil, .slnil, .slnil, .slnil, .slnil, .slnil, .slnil, .slnil, .slnil, .slnil, .slnil, .slnil, .slnil, .slnil, .slnil, .slnil, .slnil, .slnil, .slnil, .slnil, .slnil, .slnil, .slnil, .slnil, .slnil, .slnil, .slnil, .slnil, .slnil, .slnil, .slnil, .slnil, .slnil, .slnil, .slnil, .slnil, .slnil, .slnil, .slnil, .slnil, .slnil, .slnil, .slnil, .slnil, .slnil, .slnil, .slnil, .slnil, .slnil, .slnil, .slnil, .slnil, .slnil, .slnil, .slnil, .slnil, .slnil, .slnil, .slnil, .slnil, .slnil, .slnil, .slnil, .slnil, .slnil, .slnil, .slnil, .slnil, .slnil, .slnil, .slnil, .slnil, .slnil, .slnil, .slnil, .slnil, .slnil, .slnil, .slnil, .slnil, .slnil, .slnil, .slnil, .slnil, .slnil, .slnil, .slnil, .slnil, .slnil, .slnil, .slnil, .slnil, .slnil, .slnil, .slnil, .slnil, .slnil, .slnil, .slnil, .slnil, .slnil, .slnil, .slnil, .slnil, .slnil, .slnil, .slnil, .slnil, .slnil, .slnil, .slnil, .slnil, .slnil, .slnil, .slnil, .slnil, .slnil, .slnil, .slnil, .slnil, .slnil, .slnil, .slnil, .slnil, .slnil, .slnil, .slnil, .slnil, .slnil, .slnil, .slnil, .slnil, .slnil, .slnil, .slnil, .slnil, .slnil, .slnil, .slnil, .slnil, .slnil, .slnil, .slnil, .slnil, .slnil, .slnil, .slnil, .slnil, .slnil, .slnil, .slnil, .slnil, .slnil, .slnil, .slnil, .slnil, .slnil, .slnil, .slnil, .slnil, .slnil, .slnil, .slnil, .slnil, .slnil, .slnil, .slnil, .slnil, .slnil, .slnil, .slnil, .slnil, .slnil, .slnil, .slnil, .slnil]) fun v59 =>
 .store 257 v59 v58 (
 .op (.len false) [v2] fun v60 =>
 .op (.int .sub) [v60, (I 2)] fun v61 =>
 .loop 28 [v61] (fun c62 =>
 .op (.int .geq) [(g c62 0), (I 0)] fun v63 =>
 .cnd v63 (
 .op (.eaddr 1) [v2, (g c62 0)] fun v64 =>
 .load none v64 fun v65 =>
 .op .sidx [v65, (I 0)] fun v66 =>
 .op (.int .add) [(g c62 0), (I 1)] fun v67 =>
 .op (.eaddr 1) [v2, v67] fun v68 =>
 .load none v68 fun v69 =>
 .op (.faddr 0) [v59] fun v70 =>
 .op (.aaddr 256 1) [v70, v66] fun v71 =>
 .load none v71 fun v72 =>
 .op (.nileq false .sl) [v72, .slnil] fun v73 =>
 .cnd v73 (
 .op (.faddr 256) [v59] fun v74 =>
 .load none v74 fun v75 =>
 .op (.mksl 1) [v66] fun v76 =>
 .frz v76 fun v77 =>
 .op .b2s [v77] fun v78 =>
 .op (.mksl 1) [v78] fun v79 =>
 .grow 1 16 v75 v79 fun v80 =>
 .op (.faddr 256) [v59] fun v81 =>
 .store 1 v81 v80 (
 .op .s2b [v69] fun v82 =>
 .op (.faddr 0) [v59] fun v83 =>
 .op (.aaddr 256 1) [v83, v66] fun v84 =>
 .store 1 v84 v82 (
 .op (.int .sub) [(g c62 0), (I 2)] fun v85 =>
 .ret .normal [v85]))) (
 .op .s2b [v69] fun v86 =>
 .op (.faddr 0) [v59] fun v87 =>
 .op (.aaddr 256 1) [v87, v66] fun v88 =>
 .store 1 v88 v86 (
 .op (.int .sub) [(g c62 0), (I 2)] fun v89 =>
 .ret .normal [v89]))) (
 .ret (.exit 6) [(g c62 0)])) (
 fun x c90 => match x with
 | .normal =>
 .fail
 | .exit i =>
 if i = 6 then
 .mem (.mkif 315) [v59] fun v91 =>
 .ret .ret [v91]
 else
 .fail
 | .ret =>
 .ret .ret [(g c31 0)])))
 else
 .fail
 | .ret =>
 .ret .ret [(g c31 0)]))) (
 .loop 6 [.nilIface, tt, (I 0)] (fun c92 =>
 .op (.len false) [v2] fun v93 =>
 .op (.int .lss) [(g c92 2), v93] fun v94 =>
 .cnd v94 (
 .op (.eaddr 1) [v2, (g c92 2)] fun v95 =>
 .load none v95 fun v96 =>
 .op (.len true) [v96] fun v97 =>
 .op (.int .neq) [v97, (I 1)] fun v98 =>
 .cnd v98 (
 .call 259 [v2] fun v99 =>
 .mem (.mkif 308) [v99] fun v100 =>
 .ret .ret [v100, (g c92 1), (g c92 2)]) (
 .op (.int .add) [(g c92 2), (I 1)] fun v101 =>
 .op (.eaddr 1) [v2, v101] fun v102 =>
 .load none v102 fun v103 =>
 .op (.len true) [v103] fun v104 =>
 .op (.int .neq) [v104, (I 1)] fun v105 =>
 .cnd v105 (
 .op (.int .add) [(g c92 2), (I 2)] fun v106 =>
 .ret .normal [(g c92 0), ff, v106]) (
 .op (.int .add) [(g c92 2), (I 2)] fun v107 =>
 .ret .normal [(g c92 0), (g c92 1), v107]))) (
 .ret (.exit 0) [(g c92 0), (g c92 1), (g c92 2)])) (
 fun x c108 => match x with
 | .normal =>
 .fail
 | .exit i =>
 if i = 0 then
 .cnd (g c108 1) (
 .op (.mkagg [(.int .u8 0), (.int .u8 0), (.int .u8 0), (.int .u8 0), (.int .u8 0), (.int .u8 0), (.int .u8 0), (.int .u8 0), (.int .u8 0), (.int .u8 0), (.int .u8 0), (.int .u8 0), (.int .u8 0), (.int .u8 0), (.int .u8 0), (.int .u8 0), (.int .u8 0), (.int .u8 0), (.int .u8 0), (.int .u8 0), (.int .u8 0), (.int .u8 0), (.int .u8 0), (.int .u8 0), (.int .u8 0), (.int .u8 0), (.int .u8 0), (.int .u8 0), (.int .u8 0), (.int .u8 0), (.int .u8 0), (.int .u8 0), (.int .u8 0), (.int .u8 0), (.int .u8 0), (.int .u8 0), (.int .u8 0), (.int .u8 0), (.int .u8 0), (.int .u8 0), (.int .u8 0), (.int .u8 0), (.int .u8 0), (.int .u8 0), (.int .u8 0), (.int .u8 0), (.int .u8 0), (.int .u8 0), (.int .u8 0), (.int .u8 0), (.int .u8 0), (.int .u8 0), (.int .u8 0), (.int .u8 0), (.int .u8 0), (.int .u8 0), (.int .u8 0), (.int .u8 0), (.int .u8 0), (.int .u8 0), (.int .u8 0), (.int .u8 0), (.int .u8 0), (.int .u8 0), (.int .u8 0), (.int .u8 0), (.int .u8 0), (.int .u8 0), (.int .u8 0), (.int .u8 0), (.int .u8 0), (.int .u8 0), (.int .u8 0), (.int .u8 0), (.int .u8 0), (.int .u8 0), (.int .u8 0), (.int .u8 0), (.int .u8 0), (.int .u8 0), (.int .u8 0), (.int .u8 0), (.int .u8 0), (.int .u8 0), (.int .u8 0), (.int .u8 0), (.int .u8 0), (.int .u8 0), (.int .u8 0), (.int .u8 0), (.int .u8 0), (.int .u8 0), (.int .u8 0), (.int .u8 0), (.int .u8 0), (.int .u8 0), (.int .u8 0), (.int .u8 0), (.int .u8 0), (.int .u8 0), (.int .u8 0), (.int .u8 0), (.int .u8 0), (.int .u8 0), (.int .u8 0), (.int .u8 0), (.int .u8 0), (.int .u8 0), (.int .u8 0), (.int .u8 0), (.int .u8 0), (.int .u8 0), (.int .u8 0), (.int .u8 0), (.int .u8 0), (.int .u8 0), (.int .u8 0), (.int .u8 0), (.int .u8 0), (.int .u8 0), (.int .u8 0), (.int .u8 0), (.int .u8 0), (.int .u8 0), (.int .u8 0), (.int .u8 0), (.int .u8 0), (.int .u8 0), (.int .u8 0), (.int .u8 0), (.int .u8 0), (.int .u8 0), (.int .u8 0), (.int .u8 0), (.int .u8 0), (.int .u8 0), (.int .u8 0), (.int .u8 0), (.int .u8 0), (.int .u8 0), (.int .u8 0), (.int .u8 0), (.int .u8 0), (.int .u8 0), (.int .u8 0), (.int .u8 0), (.int .u8 0), (.int .u8 0), (.int .u8 0), (.int .u8 0), (.int .u8 0), (.int .u8 0), (.int .u8 0), (.int .u8 0), (.int .u8 0), (.int .u8 0), (.int .u8 0), (.int .u8 0), (.int .u8 0), (.int .u8 0), (.int .u8 0), (.int .u8 0), (.int .u8 0), (.int .u8 0), (.int .u8 0), (.int .u8 0), (.int .u8 0), (.int .u8 0), (.int .u8 0), (.int .u8 0), (.int .u8 0), (.int .u8 0), (.int .u8 0), (.int .u8 0), (.int .u8 0), (.int .u8 0), (.int .u8 0), (.int .u8 0), (.int .u8 0), (.int .u8 0), (.int .u8 0), (.int .u8 0), (.int .u8 0), (.int .u8 0), (.int .u8 0), (.int .u8 0), (.int .u8 0), (.int .u8 0), (.int .u8 0), (.int .u8 0), (.int .u8 0), (.int .u8 0), (.int .u8 0), (.int .u8 0), (.int .u8 0), (.int .u8 0), (.int .u8 0), (.int .u8 0), (.int .u8 0), (.int .u8 0), (.int .u8 0), (.int .u8 0), (.int .u8 0), (.int .u8 0), (.int .u8 0), (.int .u8 0), (.int .u8 0), (.int .u8 0), (.int .u8 0), (.int .u8 0), (.int .u8 0), (.int .u8 0), (.int .u8 0), (.int .u8 0), (.int .u8 0), (.int .u8 0), (.int .u8 0), (.int .u8 0), (.int .u8 0), (.int .u8 0), (.int .u8 0), (.int .u8 0), (.int .u8 0), (.int .u8 0), (.int .u8 0), (.int .u8 0), (.int .u8 0), (.int .u8 0), (.int .u8 0), (.int .u8 0), (.int .u8 0), (.int .u8 0), (.int .u8 0), (.int .u8 0), (.int .u8 0), (.int .u8 0), (.int .u8 0), (.int .u8 0), (.int .u8 0), (.int .u8 0), (.int .u8 0), (.int .u8 0), (.int .u8 0), (.int .u8 0), (.int .u8 0), (.int .u8 0), (.int .u8 0), (.int .u8 0), (.int .u8 0), (.int .u8 0), (.int .u8 0), (.int .u8 0), (.int .u8 0), (.int .u8 0), (.int .u8 0), (.int .u8 0)] []) [] fun v109 =>
 .alloc 256 (.agg [(.int .u8 0), (.int .u8 0), (.int .u8 0), (.int .u8 0), (.int .u8 0), (.int .u8 0), (.int .u8 0), (.int .u8 0), (.int .u8 0), (.int .u8 0), (.int .u8 0), (.int .u8 0), (.int .u8 0), (.int .u8 0), (.int .u8 0), (.int .u8 0), (.int .u8 0), (.int .u8 0), (.int .u8 0), (.int .u8 0), (.int .u8 0), (.int .u8 0), (.int .u8 0), (.int .u8 0), (.int .u8 0), (.int .u8 0), (.int .u8 0), (.int .u8 0), (.int .u8 0), (.int .u8 0), (.int .u8 0), (.int .u8 0), (.int .u8 0), (.int .u8 0), (.int .u8 0), (.int .u8 0), (.int .u8 0), (.int .u8 0), (.int .u8 0), (.int .u8 0), (.int .u8 0), (.int .u8 0), (.int .u8 0), (.int .u8 0), (.int .u8 0), (.int .u8 0), (.int .u8 0), (.int .u8 0), (.int .u8 0), (.int .u8 0), (.int .u8 0), (.int .u8 0), (.int .u8 0), (.int .u8 0), (.int .u8 0), (.int .u8 0), (.int .u8 0), (.int .u8 0), (.int .u8 0), (.int .u8 0), (.int .u8 0), (.int .u8 0), (.int .u8 0), (.int .u8 0), (.int .u8 0), (.int .u8 0), (.int .u8 0), (.int .u8 0), (.int .u8 0), (.int .u8 0), (.int .u8 0), (.int .u8 0), (.int .u8 0), (.int .u8 0), (.int .u8 0), (.int .u8 0), (.int .u8 0), (.int .u8 0), (.int .u8 0), (.int .u8 0), (.int .u8 0), (.int .u8 0), (.int .u8 0), (.int .u8 0), (.int .u8 0), (.int .u8 0), (.int .u8 0), (.int .u8 0), (.int .u8 0), (.int .u8 0), (.int .u8 0), (.int .u8 0), (.int .u8 0), (.int .u8 0), (.int .u8 0), (.int .u8 0), (.int .u8 0), (.int .u8 0), (.int .u8 0), (.int .u8 0), (.int .u8 0), (.int .u8 0), (.int .u8 0), (.int .u8 0), (.int .u8 0), (.int .u8 0), (.int .u8 0), (.int .u8 0), (.int .u8 0), (.int .u8 0), (.int .u8 0), (.int .u8 0), (.int .u8 0), (.int .u8 0), (.int .u8 0), (.int .u8 0), (.int .u8 0), (.int .u8 0), (.int .u8 0), (.int .u8 0), (.int .u8 0), (.int .u8 0), (.int .u8 0), (.int .u8 0), (.int .u8 0), (.int .u8 0), (.int .u8 0), (.int .u8 0), (.int .u8 0), (.int .u8 0), (.int .u8 0), (.int .u8 0), (.int .u8 0), (.int .u8 0), (.int .u8 0), (.int .u8 0), (.int .u8 0), (.int .u8 0), (.int .u8 0), (.int .u8 0), (.int .u8 0), (.int .u8 0), (.int .u8 0), (.int .u8 0), (.int .u8 0), (.int .u8 0), (.int .u8 0), (.int .u8 0), (.int .u8 0), (.int .u8 0), (.int .u8 0), (.int .u8 0), (.int .u8 0), (.int .u8 0), (.int .u8 0), (.int .u8 0), (.int .u8 0), (.int .u8 0), (.int .u8 0), (.int .u8 0), (.int .u8 0), (.int .u8 0), (.int .u8 0), (.int .u8 0), (.int .u8 0), (.int .u8 0), (.int .u8 0), (.int .u8 0), (.int .u8 0), (.int .u8 0), (.int .u8 0), (.int .u8 0), (.int .u8 0), (.int .u8 0), (.int .u8 0), (.int .u8 0), (.int .u8 0), (.int .u8 0), (.int .u8 0), (.int .u8 0), (.int .u8 0), (.int .u8 0), (.int .u8 0), (.int .u8 0), (.int .u8 0), (.int .u8 0), (.int .u8 0), (.int .u8 0), (.int .u8 0), (.int .u8 0), (.int .u8 0), (.int .u8 0), (.int .u8 0), (.int .u8 0), (.int .u8 0), (.int .u8 0), (.int .u8 0), (.int .u8 0), (.int .u8 0), (.int .u8 0), (.int .u8 0), (.int .u8 0), (.int .u8 0), (.int .u8 0), (.int .u8 0), (.int .u8 0), (.int .u8 0), (.int .u8 0), (.int .u8 0), (.int .u8 0), (.int .u8 0), (.int .u8 0), (.int .u8 0), (.int .u8 0), (.int .u8 0), (.int .u8 0), (.int .u8 0), (.int .u8 0), (.int .u8 0), (.int .u8 0), (.int .u8 0), (.int .u8 0), (.int .u8 0), (.int .u8 0), (.int .u8 0), (.int .u8 0), (.int .u8 0), (.int .u8 0), (.int .u8 0), (.int .u8 0), (.int .u8 0), (.int .u8 0), (.int .u8 0), (.int .u8 0), (.int .u8 0), (.int .u8 0), (.int .u8 0), (.int .u8 0), (.int .u8 0), (.int .u8 0), (.int .u8 0), (.int .u8 0), (.int .u8 0), (.int .u8 0), (.int .u8 0), (.int .u8 0), (.int .u8 0), (.int .u8 0), (.int .u8 0), (.int .u8 0), (.int .u8 0), (.int .u8 0), (.int .u8 0), (.int .u8 0), (.int .u8 0), (.int .u8 0)]) fun v110 =>
 .store 256 v110 v109 (
 .loop 15 [(I 0)] (fun c111 =>
 .op (.int .lss) [(g c111 0), (I 256)] fun v112 =>
 .cnd v112 (
 .op (.conv .u8) [(g c111 0)] fun v113 =>
 .op (.aaddr 256 1) [v110, (g c111 0)] fun v114 =>
 .store 1 v114 v113 (
 .op (.int .add) [(g c111 0), (I 1)] fun v115 =>
 .ret .normal [v115])) (
 .ret (.exit 2) [(g c111 0)])) (
 fun x c116 => match x with
 | .normal =>
 .fail
 | .exit i =>
 if i = 2 then
 .op (.len false) [v2] fun v117 =>
 .op (.int .sub) [v117, (I 2)] fun v118 =>
 .loop 20 [v118] (fun c119 =>
 .op (.int .geq) [(g c119 0), (I 0)] fun v120 =>
 .cnd v120 (
 .op (.eaddr 1) [v2, (g c119 0)] fun v121 =>
 .load none v121 fun v122 =>
 .op .sidx [v122, (I 0)] fun v123 =>
 .op (.int .add) [(g c119 0), (I 1)] fun v124 =>
 .op (.eaddr 1) [v2, v124] fun v125 =>
 .load none v125 fun v126 =>
 .op .sidx [v126, (I 0)] fun v127 =>
 .op (.aaddr 256 1) [v110, v123] fun v128 =>
 .store 1 v128 v127 (
 .op (.int .sub) [(g c119 0), (I 2)] fun v129 =>
 .ret .normal [v129])) (
 .ret (.exit 4) [(g c119 0)])) (
 fun x c130 => match x with
 | .normal =>
 .fail
 | .exit i =>
 if i = 4 then
 .mem (.mkif 311) [v110] fun v131 =>
 .ret .ret [v131]
 else
 .fail
 | .ret =>
 .ret .ret [(g c108 0)])
 else
 .fail
 | .ret =>
 .ret .ret [(g c108 0)]))) (
 .op (.len false) [v2] fun v132 =>
 .op (.int .quo) [v132, (I 2)] fun v133 =>
 .make 1 16 [(S [])] (I 0) v133 fun v134 =>
 .op (.mkagg [.slnil, .slnil, .slnil, .slnil, .slnil, .slnil, .slnil, .slnil, .slnil, .slnil, .slnil, .slnil, .slnil, .slnil, .slnil, .slnil, .slnil, .slnil, .slnil, .slnil, .slnil, .slnil, .slnil, .slnil, .slnil, .slnil, .slnil, .slnil, .slnil, .slnil, .slnil, .slnil, .slnil, .slnil, .slnil, .slnil, .slnil, .slnil, .slnil, .slnil, .slnil, .slnil, .slnil, .slnil, .slnil, .slnil, .slnil, .slnil, .slnil, .slnil, .slnil, .slnil, .slnil, .slnil, .slnil, .slnil, .slnil, .slnil, .slnil, .slnil, .slnil, .slnil, .slnil, .slnil, .slnil, .slnil, .slnil, .slnil, .slnil, .slnil, .slnil, .slnil, .slnil, .slnil, .slnil, .slnil, .slnil, .slnil, .slnil, .slnil, .slnil, .slnil, .slnil, .slnil, .slnil, .slnil, .slnil, .slnil, .slnil, .slnil, .slnil, .slnil, .slnil, .slnil, .slnil, .slnil, .slnil, .slnil, .slnil, .slnil, .slnil, .slnil, .slnil, .slnil, .slnil, .slnil, .slnil, .slnil, .slnil, .slnil, .slnil, .slnil, .slnil, .slnil, .slnil, .slnil, .slnil, .slnil, .slnil, .slnil, .slnil, .slnil, .slnil, .slnil, .slnil, .slnil, .slnil, .slnil, .slnil, .slnil, .slnil, .slnil, .slnil, .slnil, .slnil, .slnil, .slnil, .slnil, .slnil, .slnil, .slnil, .slnil, .slnil, .slnil, .slnil, .slnil, .slnil, .slnil, .slnil, .slnil, .slnil, .slnil, .slnil, .slnil, .slnil, .slnil, .slnil, .slnil, .slnil, .slnil, .slnil, .slnil, .slnil, .slnil, .slnil, .slnil, .slnil, .slnil, .slnil, .slnil, .slnil, .slnil, .slnil, .slnil, .slnil, .slnil, .slnil, .slnil, .slnil, .slnil, .slnil, .slnil, .slnil, .slnil, .slnil, .slnil, .slnil, .slnil, .slnil, .slnil, .slnil, .slnil, .slnil, .slnil, .slnil, .slnil, .slnil, .slnil, .slnil, .slnil, .slnil, .slnil, .slnil, .slnil, .slnil, .slnil, .slnil, .slnil, .slnil, .slnil, .slnil, .slnil, .slnil, .slnil, .slnil, .slnil, .slnil, .slnil, .slnil, .slnil, .slnil, .slnil, .slnil, .slnil, .slnil, .slnil, .slnil, .slnil, .slnil, .slnil, .slnil, .slnil, .slnil, .slnil, .slnil, .slnil, .slnil, .slnil, .slnil, .slnil, .slnil, .slnil, .slnil, .slnil, .slnil, .slnil, .slnil, .slnil, .slnil, .slnil, .slnil, .slnil, .slnil, .slnil, .slnil, .slnil, .slnil] [(256, 1)]) [v134] fun v135 =>
 .alloc 257 (.agg [.slnil, .slnil, .slnil, .slnil, .slnil, .slnil, .slnil, .slnil, .slnil, .slnil, .slnil, .slnil, .slnil, .slnil, .slnil, .slnil, .slnil, .slnil, .slnil, .slnil, .slnil, .slnil, .slnil, .slnil, .slnil, .slnil, .slnil, .slnil, .slnil, .slnil, .slnil, .slnil, .slnil, .slnil, .slnil, .slnil, .slnil, .slnil, .slnil, .slnil, .slnil, .slnil, .slnil, .slnil, .slnil, .slnil, .slnil, .slnil, .slnil, .slnil, .slnil, .slnil, .slnil, .slnil, .slnil, .slnil, .slnil, .slnil, .slnil, .slnil, .slnil, .slnil, .slnil, .slnil, .slnil, .slnil, .slnil, .slnil, .slnil, .slnil, .slnil, .slnil, .slnil, .slnil, .slnil, .slnil, .slnil, .slnil, .slnil, .slnil, .slnil, .slnil, .slnil, .slnil, .slnil, .slnil, .slnil, .slnil, .slnil, .slnil, .slnil, .slnil, .slnil, .slnil, .slnil, .slnil, .slnil, .slnil, .slnil, .slnil, .slnil, .slnil, .slnil, .slnil, .slnil, .slnil, .slnil, .slnil, .slnil, .slnil, .slnil, .slnil, .slnil, .slnil, .slnil, .slnil, .slnil, .slnil, .slnil, .slnil, .slnil, .slnil, .slnil, .slnil, .slnil, .slnil, .slnil, .slnil, .slnil, .slnil, .slnil, .slnil, .slnil, .slnil, .slnil, .slnil, .slnil, .slnil, .slnil, .slnil, .slnil, .slnil, .slnil, .slnil, .slnil, .slnil, .slnil, .slnil, .slnil, .slnil, .slnil, .slnil, .slnil, .slnil, .slnil, .slnil, .slnil, .slnil, .slnil, .slnil, .slnil, .slnil, .slnil, .slnil, .slnil, .slnil, .slnil, .slnil, .slnil, .slnil, .slnil, .slnil, .slnil, .slnil, .slnil, .slnil, .slnil, .slnil, .slnil, .slnil, .slnil, .slnil, .slnil, .slnil, .slnil, .slnil, .slnil, .slnil, .slnil, .slnil, .slnil, .slnil, .slnil, .slnil, .slnil, .slnil, .slnil, .slnil, .slnil, .slnil, .slnil, .slnil, .slnil, .slnil, .slnil, .slnil, .slnil, .slnil, .slnil, .slnil, .slnil, .slnil, .slnil, .slnil, .slnil, .slnil, .slnil, .slnil, .slnil, .slnil, .slnil, .slnil, .slnil, .slnil, .slnil, .slnil, .slnil, .slnil, .slnil, .slnil, .slnil, .slnil, .slnil, .slnil, .slnil, .slnil, .slnil, .slnil, .slnil, .slnil, .slnil, .slnil, .slnil, .slnil, .slnil, .slnil, .slnil, .slnil, .slnil, .slnil, .slnil, .slnil, .slnil, .slnil, .slnil, .slnil, .slnil]) fun v136 =>
 .store 257 v136 v135 (
 .op (.len false) [v2] fun v137 =>
 .op (.int .sub) [v137, (I 2)] fun v138 =>
 .loop 28 [v138] (fun c139 =>
 .op (.int .geq) [(g c139 0), (I 0)] fun v140 =>
 .cnd v140 (
 .op (.eaddr 1) [v2, (g c139 0)] fun v141 =>
 .load none v141 fun v142 =>
 .op .sidx [v142, (I 0)] fun v143 =>
 .op (.int .add) [(g c139 0), (I 1)] fun v144 =>
 .op (.eaddr 1) [v2, v144] fun v145 =>
 .load none v145 fun v146 =>
 .op (.faddr 0) [v136] fun v147 =>
 .op (.aaddr 256 1) [v147, v143] fun v148 =>
 .load none v148 fun v149 =>
 .op (.nileq false .sl) [v149, .slnil] fun v150 =>
 .cnd v150 (
 .op (.faddr 256) [v136] fun v151 =>
 .load none v151 fun v152 =>
 .op (.mksl 1) [v143] fun v153 =>
 .frz v153 fun v154 =>
 .op .b2s [v154] fun v155 =>
 .op (.mksl 1) [v155] fun v156 =>
 .grow 1 16 v152 v156 fun v157 =>
 .op (.faddr 256) [v136] fun v158 =>
 .store 1 v158 v157 (
 .op .s2b [v146] fun v159 =>
 .op (.faddr 0) [v136] fun v160 =>
 .op (.aaddr 256 1) [v160, v143] fun v161 =>
 .store 1 v161 v159 (
 .op (.int .sub) [(g c139 0), (I 2)] fun v162 =>
 .ret .normal [v162]))) (
 .op .s2b [v146] fun v163 =>
 .op (.faddr 0) [v136] fun v164 =>
 .op (.aaddr 256 1) [v164, v143] fun v165 =>
 .store 1 v165 v163 (
 .op (.int .sub) [(g c139 0), (I 2)] fun v166 =>
 .ret .normal [v166]))) (
 .ret (.exit 6) [(g c139 0)])) (
 fun x c167 => match x with
 | .normal =>
 .fail
 | .exit i =>
 if i = 6 then
 .mem (.mkif 315) [v136] fun v168 =>
 .ret .ret [v168]
 else
 .fail
 | .ret =>
 .ret .ret [(g c108 0)])))
 else
 .fail
 | .ret =>
 .ret .ret [(g c108 0)]))
theorem t247_eq (v900 : AVal) : afun cx 247 [v900] = t247 v900 := by kernel_rfl
def t315 (v900 v901 : AVal) : IT :=
 .op (.len true) [v901] fun v0 =>
 .op .nonnil [v900] fun v1 =>
 .op (.faddr 256) [v1] fun v2 =>
 .load none v2 fun v3 =>
 .op (.len false) [v3] fun v4 =>
 .op (.int .mul) [v4, (I 8)] fun v5 =>
 .op (.len true) [v901] fun v6 =>
 .op (.int .leq) [v5, v6] fun v7 =>
 .cnd v7 (
 .op .nonnil [v900] fun v8 =>
 .op (.faddr 256) [v8] fun v9 =>
 .load none v9 fun v10 =>
 .op (.len false) [v10] fun v11 =>
 .loop 5 [v0, ff, (I 0)] (fun c12 =>
 .op (.int .lss) [(g c12 2), v11] fun v13 =>
 .cnd v13 (
 .op (.eaddr 1) [v10, (g c12 2)] fun v14 =>
 .load none v14 fun v15 =>
 .pcall 317 [v901, v15] fun v16 =>
 .op (.int .neq) [v16, (I 0)] fun v17 =>
 .cnd v17 (
 .op .sidx [v15, (I 0)] fun v18 =>
 .op .nonnil [v900] fun v19 =>
 .op (.faddr 0) [v19] fun v20 =>
 .op (.aaddr 256 1) [v20, v18] fun v21 =>
 .load none v21 fun v22 =>
 .op (.len false) [v22] fun v23 =>
 .op (.int .sub) [v23, (I 1)] fun v24 =>
 .op (.int .mul) [v16, v24] fun v25 =>
 .op (.int .add) [(g c12 0), v25] fun v26 =>
 .op (.int .add) [(g c12 2), (I 1)] fun v27 =>
 .ret .normal [v26, tt, v27]) (
 .op (.int .add) [(g c12 2), (I 1)] fun v28 =>
 .ret .normal [(g c12 0), (g c12 1), v28])) (
 .ret (.exit 0) [(g c12 0), (g c12 1), (g c12 2)])) (
 fun x c29 => match x with
 | .normal =>
 .fail
 | .exit i =>
 if i = 0 then
 .op (.un .not) [(g c29 1)] fun v30 =>
 .cnd v30 (
 .ret .ret [v901]) (
 .make 1 1 [(.int .u8 0)] (g c29 0) (g c29 0) fun v31 =>
 .loop 24 [(I 0), (I 0)] (fun c32 =>
 .op (.len true) [v901] fun v33 =>
 .op (.int .lss) [(g c32 1), v33] fun v34 =>
 .cnd v34 (
 .op .sidx [v901, (g c32 1)] fun v35 =>
 .op .nonnil [v900] fun v36 =>
 .op (.faddr 0) [v36] fun v37 =>
 .op (.aaddr 256 1) [v37, v35] fun v38 =>
 .load none v38 fun v39 =>
 .op (.nileq true .sl) [v39, .slnil] fun v40 =>
 .cnd v40 (
 .op (.slc 1 false true false) [v31, (g c32 0)] fun v41 =>
 .op .nonnil [v900] fun v42 =>
 .op (.faddr 0) [v42] fun v43 =>
 .op (.aaddr 256 1) [v43, v35] fun v44 =>
 .load none v44 fun v45 =>
 .mem (.copy 1) [v41, v45] fun v46 =>
 .op (.int .add) [(g c32 0), v46] fun v47 =>
 .op (.int .add) [(g c32 1), (I 1)] fun v48 =>
 .ret .normal [v47, v48]) (
 .op (.eaddr 1) [v31, (g c32 0)] fun v49 =>
 .store 1 v49 v35 (
 .op (.int .add) [(g c32 0), (I 1)] fun v50 =>
 .op (.int .add) [(g c32 1), (I 1)] fun v51 =>
 .ret .normal [v50, v51]))) (
 .ret (.exit 4) [(g c32 0), (g c32 1)])) (
 fun x c52 => match x with
 | .normal =>
 .fail
 | .exit i =>
 if i = 4 then
 .frz v31 fun v53 =>
 .op .b2s [v53] fun v54 =>
 .ret .ret [v54]
 else
 .fail
 | .ret =>
 .ret .ret [(S [])]))
 else
 .fail
 | .ret =>
 .ret .ret [(S [])])) (
 .loop 13 [v0, ff, (I 0)] (fun c55 =>
 .op (.len true) [v901] fun v56 =>
 .op (.int .lss) [(g c55 2), v56] fun v57 =>
 .cnd v57 (
 .op .sidx [v901, (g c55 2)] fun v58 =>
 .op .nonnil [v900] fun v59 =>
 .op (.faddr 0) [v59] fun v60 =>
 .op (.aaddr 256 1) [v60, v58] fun v61 =>
 .load none v61 fun v62 =>
 .op (.nileq true .sl) [v62, .slnil] fun v63 =>
 .cnd v63 (
 .op .nonnil [v900] fun v64 =>
 .op (.faddr 0) [v64] fun v65 =>
 .op (.aaddr 256 1) [v65, v58] fun v66 =>
 .load none v66 fun v67 =>
 .op (.len false) [v67] fun v68 =>
 .op (.int .sub) [v68, (I 1)] fun v69 =>
 .op (.int .add) [(g c55 0), v69] fun v70 =>
 .op (.int .add) [(g c55 2), (I 1)] fun v71 =>
 .ret .normal [v70, tt, v71]) (
 .op (.int .add) [(g c55 2), (I 1)] fun v72 =>
 .ret .normal [(g c55 0), (g c55 1), v72])) (
 .ret (.exit 2) [(g c55 0), (g c55 1), (g c55 2)])) (
 fun x c73 => match x with
 | .normal =>
 .fail
 | .exit i =>
 if i = 2 then
 .op (.un .not) [(g c73 1)] fun v74 =>
 .cnd v74 (
 .ret .ret [v901]) (
 .make 1 1 [(.int .u8 0)] (g c73 0) (g c73 0) fun v75 =>
 .loop 24 [(I 0), (I 0)] (fun c76 =>
 .op (.len true) [v901] fun v77 =>
 .op (.int .lss) [(g c76 1), v77] fun v78 =>
 .cnd v78 (
 .op .sidx [v901, (g c76 1)] fun v79 =>
 .op .nonnil [v900] fun v80 =>
 .op (.faddr 0) [v80] fun v81 =>
 .op (.aaddr 256 1) [v81, v79] fun v82 =>
 .load none v82 fun v83 =>
 .op (.nileq true .sl) [v83, .slnil] fun v84 =>
 .cnd v84 (
 .op (.slc 1 false true false) [v75, (g c76 0)] fun v85 =>
 .op .nonnil [v900] fun v86 =>
 .op (.faddr 0) [v86] fun v87 =>
 .op (.aaddr 256 1) [v87, v79] fun v88 =>
 .load none v88 fun v89 =>
 .mem (.copy 1) [v85, v89] fun v90 =>
 .op (.int .add) [(g c76 0), v90] fun v91 =>
 .op (.int .add) [(g c76 1), (I 1)] fun v92 =>
 .ret .normal [v91, v92]) (
 .op (.eaddr 1) [v75, (g c76 0)] fun v93 =>
 .store 1 v93 v79 (
 .op (.int .add) [(g c76 0), (I 1)] fun v94 =>
 .op (.int .add) [(g c76 1), (I 1)] fun v95 =>
 .ret .normal [v94, v95]))) (
 .ret (.exit 4) [(g c76 0), (g c76 1)])) (
 fun x c96 => match x with
 | .normal =>
 .fail
 | .exit i =>
 if i = 4 then
 .frz v75 fun v97 =>
 .op .b2s [v97] fun v98 =>
 .ret .ret [v98]
 else
 .fail
 | .ret =>
 .ret .ret [(S [])]))
 else
 .fail
 | .ret =>
 .ret .ret [(S [])]))
theorem t315_eq (v900 v901 : AVal) : afun cx 315 [v900, v901] = t315 v900 v901 := by kernel_rfl
def t100053 (v900 : AVal) : IT :=
 .op (.nileq false .sl) [v900, .slnil] fun v0 =>
 .cnd v0 (
 .ret .ret [.slnil]) (
 .op (.mksl 3) [] fun v1 =>
 .objOf 3 40 v1 v900 fun v2 =>
 .ret .ret [v2])
theorem t100053_eq (v900 : AVal) : afun cx 100053 [v900] = t100053 v900 := by kernel_rfl
end Go.Am
