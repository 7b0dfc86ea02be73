/-
  The trees of the functions, written by a program; each is held against the code by the kernel. No law is claimed here.
-/
import Derived.Test.YtpikmmnpebamnaaGreatDoorCtx
import Derived.KernelRfl
namespace Go.Am
open Go
set_option linter.unusedVariables false
def t49 (v900 v901 : AVal) : IT :=
 .cells 4 v900 fun c0 =>
 .op (.int .eql) [(g c0 1), (I 1)] fun v1 =>
 .cnd v1 (
 .call 111 [v901, (g c0 2)] fun v2 =>
 .ret .ret [v2]) (
 .ret .ret [ff])
theorem t49_eq (v900 v901 : AVal) : afun cx 49 [v900, v901] = t49 v900 v901 := by kernel_rfl
def t50 (v900 : AVal) : IT :=
 .call 51 [v900] fun v0 =>
 .op (.un .not) [v0] fun v1 =>
 .cnd v1 (
 .ret .ret [(.tuple [])]) (
 .op .nonnil [v900] fun v2 =>
 .op (.faddr 4) [v2] fun v3 =>
 .store 1 v3 (I 7) (
 .op .nonnil [v900] fun v4 =>
 .op (.faddr 2) [v4] fun v5 =>
 .call 62 [v5] fun v6 =>
 .op (.int .sub) [v6, (I 1)] fun v7 =>
 .loop 3 [v7] (fun c8 =>
 .op (.int .geq) [(g c8 0), (I 0)] fun v9 =>
 .cnd v9 (
 .op .nonnil [v900] fun v10 =>
 .op (.faddr 2) [v10] fun v11 =>
 .call 112 [v11, (g c8 0)] fun v12 =>
 .cells 4 v12 fun c13 =>
 .op (.int .eql) [(g c8 0), (I 0)] fun v14 =>
 .cnd v14 (
 .op .nonnil [v900] fun v15 =>
 .op (.faddr 9) [v15] fun v16 =>
 .load none v16 fun v17 =>
 .cnd v17 (
 .op .nonnil [v900] fun v18 =>
 .op (.faddr 10) [v18] fun v19 =>
 .load (some 4) v19 fun v20 =>
 .cells 4 v20 fun c21 =>
 .call 113 [v900, (.agg [(g c21 0), (g c21 1), (g c21 2), (g c21 3)]), (g c8 0)] fun v22 =>
 .op (.ext 0) [v22] fun v23 =>
 .op (.ext 1) [v22] fun v24 =>
 .cnd v24 (
 .op .nonnil [v900] fun v25 =>
 .op (.faddr 4) [v25] fun v26 =>
 .store 1 v26 v23 (
 .ret .ret [(g c8 0)])) (
 .op (.int .sub) [(g c8 0), (I 1)] fun v27 =>
 .ret .normal [v27])) (
 .call 113 [v900, (.agg [(g c13 0), (g c13 1), (g c13 2), (g c13 3)]), (g c8 0)] fun v28 =>
 .op (.ext 0) [v28] fun v29 =>
 .op (.ext 1) [v28] fun v30 =>
 .cnd v30 (
 .op .nonnil [v900] fun v31 =>
 .op (.faddr 4) [v31] fun v32 =>
 .store 1 v32 v29 (
 .ret .ret [(g c8 0)])) (
 .op (.int .sub) [(g c8 0), (I 1)] fun v33 =>
 .ret .normal [v33]))) (
 .call 113 [v900, (.agg [(g c13 0), (g c13 1), (g c13 2), (g c13 3)]), (g c8 0)] fun v34 =>
 .op (.ext 0) [v34] fun v35 =>
 .op (.ext 1) [v34] fun v36 =>
 .cnd v36 (
 .op .nonnil [v900] fun v37 =>
 .op (.faddr 4) [v37] fun v38 =>
 .store 1 v38 v35 (
 .ret .ret [(g c8 0)])) (
 .op (.int .sub) [(g c8 0), (I 1)] fun v39 =>
 .ret .normal [v39]))) (
 .ret (.exit 0) [(g c8 0)])) (
 fun x c40 => match x with
 | .normal =>
 .fail
 | .exit i =>
 if i = 0 then
 .ret .ret [(.tuple [])]
 else
 .fail
 | .ret =>
 .ret .ret [(.tuple [])])))
theorem t50_eq (v900 : AVal) : afun cx 50 [v900] = t50 v900 := by kernel_rfl
def t51 (v900 : AVal) : IT :=
 .op (.peq true) [v900, (.ptr none)] fun v0 =>
 .cnd v0 (
 .op .nonnil [v900] fun v1 =>
 .op (.faddr 0) [v1] fun v2 =>
 .load none v2 fun v3 =>
 .op (.peq true) [v3, (.ptr none)] fun v4 =>
 .ret .ret [v4]) (
 .ret .ret [ff])
theorem t51_eq (v900 : AVal) : afun cx 51 [v900] = t51 v900 := by kernel_rfl
def t52 (v900 : AVal) : IT :=
 .op (.nileq false .sl) [v900, .slnil] fun v0 =>
 .cnd v0 (
 .ret .ret [.slnil]) (
 .op (.mksl 1) [] fun v1 =>
 .op (.append 1 8) [v1, v900] fun v2 =>
 .ret .ret [v2])
theorem t52_eq (v900 : AVal) : afun cx 52 [v900] = t52 v900 := by kernel_rfl
def t53 (v900 : AVal) : IT :=
 .op (.nileq false .sl) [v900, .slnil] fun v0 =>
 .cnd v0 (
 .ret .ret [.slnil]) (
 .op (.mksl 3) [] fun v1 =>
 .appendM 3 40 v1 v900 fun v2 =>
 .ret .ret [v2])
theorem t53_eq (v900 : AVal) : afun cx 53 [v900] = t53 v900 := by kernel_rfl
def t54 (v900 v901 : AVal) : IT :=
 .op (.len false) [v900] fun v0 =>
 .op (.len false) [v901] fun v1 =>
 .op (.int .neq) [v0, v1] fun v2 =>
 .cnd v2 (
 .ret .ret [ff]) (
 .loop 4 [ff, (I 0)] (fun c3 =>
 .op (.len false) [v900] fun v4 =>
 .op (.int .lss) [(g c3 1), v4] fun v5 =>
 .cnd v5 (
 .op (.eaddr 3) [v900, (g c3 1)] fun v6 =>
 .op (.faddr 0) [v6] fun v7 =>
 .load none v7 fun v8 =>
 .op (.eaddr 3) [v901, (g c3 1)] fun v9 =>
 .op (.faddr 0) [v9] fun v10 =>
 .load none v10 fun v11 =>
 .op (.int .neq) [v8, v11] fun v12 =>
 .cnd v12 (
 .ret .ret [ff, (g c3 1)]) (
 .op (.eaddr 3) [v900, (g c3 1)] fun v13 =>
 .op (.faddr 1) [v13] fun v14 =>
 .load none v14 fun v15 =>
 .op (.eaddr 3) [v901, (g c3 1)] fun v16 =>
 .op (.faddr 1) [v16] fun v17 =>
 .load none v17 fun v18 =>
 .op (.str .neq) [v15, v18] fun v19 =>
 .cnd v19 (
 .ret .ret [ff, (g c3 1)]) (
 .op (.eaddr 3) [v900, (g c3 1)] fun v20 =>
 .op (.faddr 2) [v20] fun v21 =>
 .load none v21 fun v22 =>
 .op (.len false) [v22] fun v23 =>
 .op (.eaddr 3) [v901, (g c3 1)] fun v24 =>
 .op (.faddr 2) [v24] fun v25 =>
 .load none v25 fun v26 =>
 .op (.len false) [v26] fun v27 =>
 .op (.int .neq) [v23, v27] fun v28 =>
 .cnd v28 (
 .ret .ret [ff, (g c3 1)]) (
 .loop 9 [(g c3 0), (I 0)] (fun c29 =>
 .op (.eaddr 3) [v900, (g c3 1)] fun v30 =>
 .op (.faddr 2) [v30] fun v31 =>
 .load none v31 fun v32 =>
 .op (.len false) [v32] fun v33 =>
 .op (.int .lss) [(g c29 1), v33] fun v34 =>
 .cnd v34 (
 .op (.eaddr 3) [v900, (g c3 1)] fun v35 =>
 .op (.faddr 2) [v35] fun v36 =>
 .load none v36 fun v37 =>
 .op (.eaddr 3) [v37, (g c29 1)] fun v38 =>
 .load (some 3) v38 fun v39 =>
 .op (.eaddr 3) [v901, (g c3 1)] fun v40 =>
 .op (.faddr 2) [v40] fun v41 =>
 .load none v41 fun v42 =>
 .op (.eaddr 3) [v42, (g c29 1)] fun v43 =>
 .load (some 3) v43 fun v44 =>
 .op (.geq true [.i, .s, .s]) [v39, v44] fun v45 =>
 .cnd v45 (
 .ret .ret [ff, (g c29 1)]) (
 .op (.int .add) [(g c29 1), (I 1)] fun v46 =>
 .ret .normal [(g c29 0), v46])) (
 .ret (.exit 2) [(g c29 0), (g c29 1)])) (
 fun x c47 => match x with
 | .normal =>
 .fail
 | .exit i =>
 if i = 2 then
 .op (.int .add) [(g c3 1), (I 1)] fun v48 =>
 .ret .normal [(g c47 0), v48]
 else
 if i = 1 then
 .op (.int .add) [(g c3 1), (I 1)] fun v49 =>
 .ret .normal [(g c47 0), v49]
 else
 .ret (.exit i) [(g c47 0), (g c3 1)]
 | .ret =>
 .ret .ret [(g c47 0), (g c3 1)]))))) (
 .ret (.exit 0) [(g c3 0), (g c3 1)])) (
 fun x c50 => match x with
 | .normal =>
 .fail
 | .exit i =>
 if i = 0 then
 .ret .ret [tt]
 else
 .fail
 | .ret =>
 .ret .ret [(g c50 0)]))
theorem t54_eq (v900 v901 : AVal) : afun cx 54 [v900, v901] = t54 v900 v901 := by kernel_rfl
def t55 (v900 v901 v902 : AVal) : IT :=
 .cells 12 v901 fun c0 =>
 .call 51 [v900] fun v1 =>
 .op (.un .not) [v1] fun v2 =>
 .cnd v2 (
 .ret .ret [(I 0)]) (
 .call 114 [v900, (.func (.func 45) [v900] []), (.agg [(g c0 0), (g c0 1), (g c0 2), (g c0 3), (g c0 4), (g c0 5), (g c0 6), (g c0 7), (g c0 8), (g c0 9), (g c0 10), (g c0 11)]), v902] fun v3 =>
 .ret .ret [v3])
theorem t55_eq (v900 v901 v902 : AVal) : afun cx 55 [v900, v901, v902] = t55 v900 v901 v902 := by kernel_rfl
def t56 (v900 v901 : AVal) : IT :=
 .op (.peq false) [v900, (.ptr none)] fun v0 =>
 .cnd v0 (
 .ret .ret [(I 1)]) (
 .op (.len false) [v901] fun v1 =>
 .loop 4 [(I 0), (I 0)] (fun c2 =>
 .op (.int .lss) [(g c2 1), v1] fun v3 =>
 .cnd v3 (
 .op (.eaddr 1) [v901, (g c2 1)] fun v4 =>
 .load none v4 fun v5 =>
 .call 84 [v900, v5] fun v6 =>
 .op (.un .not) [v6] fun v7 =>
 .cnd v7 (
 .ret .ret [(I 3), (g c2 1)]) (
 .op (.int .add) [(g c2 1), (I 1)] fun v8 =>
 .ret .normal [(g c2 0), v8])) (
 .ret (.exit 0) [(g c2 0), (g c2 1)])) (
 fun x c9 => match x with
 | .normal =>
 .fail
 | .exit i =>
 if i = 0 then
 .ret .ret [(I 0)]
 else
 .fail
 | .ret =>
 .ret .ret [(g c9 0)]))
theorem t56_eq (v900 v901 : AVal) : afun cx 56 [v900, v901] = t56 v900 v901 := by kernel_rfl
def t57 (v900 : AVal) : IT :=
 .op .nonnil [v900] fun v0 =>
 .op (.faddr 0) [v0] fun v1 =>
 .load (some 13) v1 fun v2 =>
 .cells 13 v2 fun c3 =>
 .op .nonnil [v900] fun v4 =>
 .op (.faddr 0) [v4] fun v5 =>
 .op (.faddr 2) [v5] fun v6 =>
 .load none v6 fun v7 =>
 .op .nonnil [v900] fun v8 =>
 .op (.faddr 0) [v8] fun v9 =>
 .op (.faddr 6) [v9] fun v10 =>
 .load none v10 fun v11 =>
 .call 115 [v7] fun v12 =>
 .load none v10 fun v13 =>
 .same v11 v13 (
 .call 100053 [v11] fun v14 =>
 .cells 1 v12 fun c15 =>
 .cells 1 v14 fun c16 =>
 .cells 13 (.agg [(g c3 0), (g c3 1), (g c15 0), (g c3 3), (g c3 4), (g c3 5), (g c16 0), (g c3 7), (g c3 8), (g c3 9), (g c3 10), (g c3 11), (g c3 12)]) fun c17 =>
 .ret .ret [(.agg [(g c17 0), (g c17 1), (g c17 2), (g c17 3), (g c17 4), (g c17 5), (g c17 6), (g c17 7), (g c17 8), (g c17 9), (g c17 10), (g c17 11), (g c17 12)])])
theorem t57_eq (v900 : AVal) : afun cx 57 [v900] = t57 v900 := by kernel_rfl
def t58 (v900 v901 : AVal) : IT :=
 .op .nonnil [v900] fun v0 =>
 .op (.faddr 0) [v0] fun v1 =>
 .load none v1 fun v2 =>
 .call 22 [v2, v901] fun v3 =>
 .op (.ext 0) [v3] fun v4 =>
 .op (.ext 1) [v3] fun v5 =>
 .cells 13 v4 fun c6 =>
 .cells 13 (.agg [(g c6 0), (g c6 1), (g c6 2), (g c6 3), (g c6 4), (g c6 5), (g c6 6), (g c6 7), (g c6 8), (g c6 9), (g c6 10), (g c6 11), (g c6 12)]) fun c7 =>
 .ret .ret [(.agg [(g c7 0), (g c7 1), (g c7 2), (g c7 3), (g c7 4), (g c7 5), (g c7 6), (g c7 7), (g c7 8), (g c7 9), (g c7 10), (g c7 11), (g c7 12)])]
theorem t58_eq (v900 v901 : AVal) : afun cx 58 [v900, v901] = t58 v900 v901 := by kernel_rfl
def t59 (v900 v901 : AVal) : IT :=
 .call 108 [v900, v901] fun v0 =>
 .op (.int .geq) [v0, (I 0)] fun v1 =>
 .ret .ret [v1]
theorem t59_eq (v900 v901 : AVal) : afun cx 59 [v900, v901] = t59 v900 v901 := by kernel_rfl
def t60 (v900 v901 : AVal) : IT :=
 .cells 3 v900 fun c0 =>
 .op (.int .eql) [(g c0 0), (I 0)] fun v1 =>
 .cnd v1 (
 .op (.faddr 1) [v901] fun v2 =>
 .load none v2 fun v3 =>
 .op (.str .eql) [(g c0 1), v3] fun v4 =>
 .ret .ret [v4]) (
 .ret .ret [ff])
theorem t60_eq (v900 v901 : AVal) : afun cx 60 [v900, v901] = t60 v900 v901 := by kernel_rfl
def t61 (v900 v901 v902 : AVal) : IT :=
 .op (.mksl 1) [v901] fun v0 =>
 .call 56 [v900, v0] fun v1 =>
 .op (.int .neq) [v1, (I 0)] fun v2 =>
 .cnd v2 (
 .ret .ret [v1]) (
 .call 43 [v900, v901] fun v3 =>
 .op .nonnil [v3] fun v4 =>
 .op (.faddr 0) [v4] fun v5 =>
 .op (.faddr 0) [v5] fun v6 =>
 .load none v6 fun v7 =>
 .op (.int .neq) [v7, (I 4)] fun v8 =>
 .cnd v8 (
 .ret .ret [(I 9)]) (
 .call 116 [v902] fun v9 =>
 .op (.ext 0) [v9] fun v10 =>
 .op (.ext 1) [v9] fun v11 =>
 .op (.un .not) [v11] fun v12 =>
 .cnd v12 (
 .ret .ret [(I 2)]) (
 .op .nonnil [v3] fun v13 =>
 .op (.faddr 0) [v13] fun v14 =>
 .op (.faddr 6) [v14] fun v15 =>
 .store 1 v15 v10 (
 .ret .ret [(I 0)]))))
theorem t61_eq (v900 v901 v902 : AVal) : afun cx 61 [v900, v901, v902] = t61 v900 v901 v902 := by kernel_rfl
def t62 (v900 : AVal) : IT :=
 .op (.peq false) [v900, (.ptr none)] fun v0 =>
 .cnd v0 (
 .ret .ret [(I 0)]) (
 .op .nonnil [v900] fun v1 =>
 .op (.faddr 0) [v1] fun v2 =>
 .load none v2 fun v3 =>
 .op (.len false) [v3] fun v4 =>
 .ret .ret [v4])
theorem t62_eq (v900 : AVal) : afun cx 62 [v900] = t62 v900 := by kernel_rfl
def t63 (v900 : AVal) : IT :=
 .op .nonnil [v900] fun v0 =>
 .op (.faddr 2) [v0] fun v1 =>
 .op .nonnil [v900] fun v2 =>
 .op (.faddr 2) [v2] fun v3 =>
 .call 117 [v1, (S [116,97,98,108,101])] fun v4 =>
 .call 117 [v3, (S [116,101,109,112,108,97,116,101])] fun v5 =>
 .op (.int .gtr) [v5, v4] fun v6 =>
 .cnd v6 (
 .op .nonnil [v900] fun v7 =>
 .op (.faddr 2) [v7] fun v8 =>
 .call 112 [v8, v5] fun v9 =>
 .op (.part 0 none) [v9] fun v10 =>
 .ret .ret [(.tuple [v10, (I 0)])]) (
 .op (.int .lss) [v4, (I 0)] fun v11 =>
 .cnd v11 (
 .op .nonnil [v900] fun v12 =>
 .op (.faddr 2) [v12] fun v13 =>
 .call 112 [v13, (I 0)] fun v14 =>
 .op (.part 0 none) [v14] fun v15 =>
 .ret .ret [(.tuple [v15, (I 0)])]) (
 .op .nonnil [v900] fun v16 =>
 .op (.faddr 2) [v16] fun v17 =>
 .call 112 [v17, v4] fun v18 =>
 .op (.part 0 none) [v18] fun v19 =>
 .op .nonnil [v900] fun v20 =>
 .op (.faddr 0) [v20] fun v21 =>
 .load none v21 fun v22 =>
 .call 118 [v22, v19] fun v23 =>
 .op (.int .neq) [v23, (I 0)] fun v24 =>
 .cnd v24 (
 .ret .ret [(.tuple [v23, v19])]) (
 .op .nonnil [v900] fun v25 =>
 .op (.faddr 2) [v25] fun v26 =>
 .op (.int .sub) [v4, (I 1)] fun v27 =>
 .op (.minmax true) [v27, (I 0)] fun v28 =>
 .call 112 [v26, v28] fun v29 =>
 .op (.part 0 none) [v29] fun v30 =>
 .ret .ret [(.tuple [v30, (I 0)])])))
theorem t63_eq (v900 : AVal) : afun cx 63 [v900] = t63 v900 := by kernel_rfl
def t64 (v900 : AVal) : IT :=
 .call 62 [v900] fun v0 =>
 .op (.int .sub) [v0, (I 1)] fun v1 =>
 .call 112 [v900, v1] fun v2 =>
 .cells 4 v2 fun c3 =>
 .ret .ret [(.agg [(g c3 0), (g c3 1), (g c3 2), (g c3 3)])]
theorem t64_eq (v900 : AVal) : afun cx 64 [v900] = t64 v900 := by kernel_rfl
def t65 (v900 : AVal) : IT :=
 .cells 9 v900 fun c0 =>
 .op (.append 3 40) [.slnil, (g c0 2)] fun v1 =>
 .op (.mkagg [(I 0), (S []), ff, (S []), ff, (S []), ff, ff, .slnil, ff, (S []), (.int .i32 0)] [(0, 1), (1, 1), (8, 1)]) [(I 2), (g c0 1), v1] fun v2 =>
 .cells 12 v2 fun c3 =>
 .ret .ret [(.agg [(g c3 0), (g c3 1), (g c3 2), (g c3 3), (g c3 4), (g c3 5), (g c3 6), (g c3 7), (g c3 8), (g c3 9), (g c3 10), (g c3 11)])]
theorem t65_eq (v900 : AVal) : afun cx 65 [v900] = t65 v900 := by kernel_rfl
def t66 (v900 v901 v902 : AVal) : IT :=
 .call 51 [v900] fun v0 =>
 .op (.un .not) [v0] fun v1 =>
 .cnd v1 (
 .ret .ret [(.tuple [])]) (
 .op (.int .eql) [v902, (I 0)] fun v2 =>
 .cnd v2 (
 .call 27 [v900, (I 0)] fun v3 =>
 .op (.ext 0) [v3] fun v4 =>
 .op (.ext 1) [v3] fun v5 =>
 .call 58 [v900, v4] fun v6 =>
 .cells 13 v6 fun c7 =>
 .op (.int .neq) [(g c7 0), (I 1)] fun v8 =>
 .cnd v8 (
 .op (.int .neq) [(g c7 0), (I 2)] fun v9 =>
 .cnd v9 (
 .op (.int .neq) [(g c7 0), (I 4)] fun v10 =>
 .cnd v10 (
 .ret .ret [(.tuple [])]) (
 .op .nonnil [v900] fun v11 =>
 .op (.faddr 0) [v11] fun v12 =>
 .load none v12 fun v13 =>
 .call 14 [v13, (g c7 3), v901] fun v14 =>
 .op (.ext 0) [v14] fun v15 =>
 .op (.ext 1) [v14] fun v16 =>
 .op (.int .eql) [v16, (I 0)] fun v17 =>
 .cnd v17 (
 .call 46 [v900, v15, v4, v5] fun v18 =>
 .ret .ret [(.tuple [])]) (
 .ret .ret [(.tuple [])]))) (
 .op .nonnil [v900] fun v19 =>
 .op (.faddr 0) [v19] fun v20 =>
 .load none v20 fun v21 =>
 .call 14 [v21, (g c7 3), v901] fun v22 =>
 .op (.ext 0) [v22] fun v23 =>
 .op (.ext 1) [v22] fun v24 =>
 .op (.int .eql) [v24, (I 0)] fun v25 =>
 .cnd v25 (
 .call 46 [v900, v23, v4, v5] fun v26 =>
 .ret .ret [(.tuple [])]) (
 .ret .ret [(.tuple [])]))) (
 .op .nonnil [v900] fun v27 =>
 .op (.faddr 0) [v27] fun v28 =>
 .load none v28 fun v29 =>
 .call 14 [v29, (g c7 3), v901] fun v30 =>
 .op (.ext 0) [v30] fun v31 =>
 .op (.ext 1) [v30] fun v32 =>
 .op (.int .eql) [v32, (I 0)] fun v33 =>
 .cnd v33 (
 .call 46 [v900, v31, v4, v5] fun v34 =>
 .ret .ret [(.tuple [])]) (
 .ret .ret [(.tuple [])]))) (
 .call 58 [v900, v902] fun v35 =>
 .cells 13 v35 fun c36 =>
 .op (.int .neq) [(g c36 0), (I 1)] fun v37 =>
 .cnd v37 (
 .op (.int .neq) [(g c36 0), (I 2)] fun v38 =>
 .cnd v38 (
 .op (.int .neq) [(g c36 0), (I 4)] fun v39 =>
 .cnd v39 (
 .ret .ret [(.tuple [])]) (
 .op .nonnil [v900] fun v40 =>
 .op (.faddr 0) [v40] fun v41 =>
 .load none v41 fun v42 =>
 .call 14 [v42, (g c36 3), v901] fun v43 =>
 .op (.ext 0) [v43] fun v44 =>
 .op (.ext 1) [v43] fun v45 =>
 .op (.int .eql) [v45, (I 0)] fun v46 =>
 .cnd v46 (
 .call 46 [v900, v44, v902, (I 0)] fun v47 =>
 .ret .ret [(.tuple [])]) (
 .ret .ret [(.tuple [])]))) (
 .op .nonnil [v900] fun v48 =>
 .op (.faddr 0) [v48] fun v49 =>
 .load none v49 fun v50 =>
 .call 14 [v50, (g c36 3), v901] fun v51 =>
 .op (.ext 0) [v51] fun v52 =>
 .op (.ext 1) [v51] fun v53 =>
 .op (.int .eql) [v53, (I 0)] fun v54 =>
 .cnd v54 (
 .call 46 [v900, v52, v902, (I 0)] fun v55 =>
 .ret .ret [(.tuple [])]) (
 .ret .ret [(.tuple [])]))) (
 .op .nonnil [v900] fun v56 =>
 .op (.faddr 0) [v56] fun v57 =>
 .load none v57 fun v58 =>
 .call 14 [v58, (g c36 3), v901] fun v59 =>
 .op (.ext 0) [v59] fun v60 =>
 .op (.ext 1) [v59] fun v61 =>
 .op (.int .eql) [v61, (I 0)] fun v62 =>
 .cnd v62 (
 .call 46 [v900, v60, v902, (I 0)] fun v63 =>
 .ret .ret [(.tuple [])]) (
 .ret .ret [(.tuple [])]))))
theorem t66_eq (v900 v901 v902 : AVal) : afun cx 66 [v900, v901, v902] = t66 v900 v901 v902 := by kernel_rfl
def t67 (v900 v901 v902 : AVal) : IT :=
 .cells 12 v901 fun c0 =>
 .call 51 [v900] fun v1 =>
 .cnd v1 (
 .call 21 [v900, (.agg [(g c0 0), (g c0 1), (g c0 2), (g c0 3), (g c0 4), (g c0 5), (g c0 6), (g c0 7), (g c0 8), (g c0 9), (g c0 10), (g c0 11)])] fun v2 =>
 .op .nonnil [v900] fun v3 =>
 .op (.faddr 4) [v3] fun v4 =>
 .load none v4 fun v5 =>
 .op .nonnil [v900] fun v6 =>
 .op (.faddr 18) [v6] fun v7 =>
 .store 1 v7 v902 (
 .op .nonnil [v900] fun v8 =>
 .op (.faddr 5) [v8] fun v9 =>
 .store 1 v9 v5 (
 .op .nonnil [v900] fun v10 =>
 .op (.faddr 4) [v10] fun v11 =>
 .store 1 v11 (I 8) (
 .ret .ret [(.tuple [])])))) (
 .ret .ret [(.tuple [])])
theorem t67_eq (v900 v901 v902 : AVal) : afun cx 67 [v900, v901, v902] = t67 v900 v901 v902 := by kernel_rfl
def t68 (v900 : AVal) : IT :=
 .call 51 [v900] fun v0 =>
 .cnd v0 (
 .op .nonnil [v900] fun v1 =>
 .op (.faddr 2) [v1] fun v2 =>
 .op (.mksl 1) [(S [112])] fun v3 =>
 .call 119 [v2, (I 3), v3] fun v4 =>
 .cnd v4 (
 .op .nonnil [v900] fun v5 =>
 .op (.faddr 2) [v5] fun v6 =>
 .call 120 [v6, (S [112])] fun v7 =>
 .op .nonnil [v900] fun v8 =>
 .op (.faddr 2) [v8] fun v9 =>
 .op (.mksl 1) [(S [112])] fun v10 =>
 .call 76 [v9, v10] fun v11 =>
 .ret .ret [(.tuple [])]) (
 .ret .ret [(.tuple [])])) (
 .ret .ret [(.tuple [])])
theorem t68_eq (v900 : AVal) : afun cx 68 [v900] = t68 v900 := by kernel_rfl
def t69 (v900 : AVal) : IT :=
 .call 51 [v900] fun v0 =>
 .op (.un .not) [v0] fun v1 =>
 .cnd v1 (
 .frzAt 3 v900 (
 .ret .ret [(.tuple [])])) (
 .op .nonnil [v900] fun v2 =>
 .op (.faddr 3) [v2] fun v3 =>
 .op (.faddr 0) [v3] fun v4 =>
 .load none v4 fun v5 =>
 .op (.len false) [v5] fun v6 =>
 .loop 2 [v6] (fun c7 =>
 .op (.int .gtr) [(g c7 0), (I 0)] fun v8 =>
 .cnd v8 (
 .op .nonnil [v900] fun v9 =>
 .op (.faddr 3) [v9] fun v10 =>
 .op (.faddr 0) [v10] fun v11 =>
 .load none v11 fun v12 =>
 .op (.int .sub) [(g c7 0), (I 1)] fun v13 =>
 .op (.eaddr 3) [v12, v13] fun v14 =>
 .op (.faddr 0) [v14] fun v15 =>
 .load none v15 fun v16 =>
 .op (.int .neq) [v16, (I 0)] fun v17 =>
 .cnd v17 (
 .op .nonnil [v900] fun v18 =>
 .op (.faddr 2) [v18] fun v19 =>
 .op .nonnil [v900] fun v20 =>
 .op (.faddr 3) [v20] fun v21 =>
 .op (.faddr 0) [v21] fun v22 =>
 .load none v22 fun v23 =>
 .op (.int .sub) [(g c7 0), (I 1)] fun v24 =>
 .op (.eaddr 3) [v23, v24] fun v25 =>
 .op (.faddr 0) [v25] fun v26 =>
 .load none v26 fun v27 =>
 .call 121 [v19, v27] fun v28 =>
 .op (.int .lss) [v28, (I 0)] fun v29 =>
 .cnd v29 (
 .op (.int .sub) [(g c7 0), (I 1)] fun v30 =>
 .ret .normal [v30]) (
 .ret (.exit 0) [(g c7 0)])) (
 .ret (.exit 0) [(g c7 0)])) (
 .ret (.exit 0) [(g c7 0)])) (
 fun x c31 => match x with
 | .normal =>
 .fail
 | .exit i =>
 if i = 0 then
 .op .nonnil [v900] fun v32 =>
 .op (.faddr 3) [v32] fun v33 =>
 .op (.faddr 0) [v33] fun v34 =>
 .load none v34 fun v35 =>
 .call 122 [v35] fun v36 =>
 .op .nonnil [v900] fun v37 =>
 .op (.faddr 3) [v37] fun v38 =>
 .op (.faddr 0) [v38] fun v39 =>
 .store 1 v39 v36 (
 .loop 5 [(g c31 0)] (fun c40 =>
 .op .nonnil [v900] fun v41 =>
 .op (.faddr 3) [v41] fun v42 =>
 .op (.faddr 0) [v42] fun v43 =>
 .load none v43 fun v44 =>
 .op (.len false) [v44] fun v45 =>
 .op (.int .lss) [(g c40 0), v45] fun v46 =>
 .cnd v46 (
 .op .nonnil [v900] fun v47 =>
 .op (.faddr 3) [v47] fun v48 =>
 .op (.faddr 0) [v48] fun v49 =>
 .load none v49 fun v50 =>
 .op .nonnil [v900] fun v51 =>
 .op (.faddr 3) [v51] fun v52 =>
 .op (.faddr 0) [v52] fun v53 =>
 .load none v53 fun v54 =>
 .op (.eaddr 3) [v54, (g c40 0)] fun v55 =>
 .load (some 3) v55 fun v56 =>
 .call 123 [v56] fun v57 =>
 .load none v49 fun v58 =>
 .same v50 v58 (
 .call 21 [v900, v57] fun v59 =>
 .load none v49 fun v60 =>
 .same v50 v60 (
 .op (.eaddr 3) [v50, (g c40 0)] fun v61 =>
 .op (.faddr 0) [v61] fun v62 =>
 .store 1 v62 v59 (
 .op (.int .add) [(g c40 0), (I 1)] fun v63 =>
 .ret .normal [v63])))) (
 .ret (.exit 2) [(g c40 0)])) (
 fun x c64 => match x with
 | .normal =>
 .fail
 | .exit i =>
 if i = 2 then
 .frzAt 3 v900 (
 .ret .ret [(.tuple [])])
 else
 .fail
 | .ret =>
 .frzAt 3 v900 (
 .ret .ret [(.tuple [])])))
 else
 .fail
 | .ret =>
 .frzAt 3 v900 (
 .ret .ret [(.tuple [])])))
theorem t69_eq (v900 : AVal) : afun cx 69 [v900] = t69 v900 := by kernel_rfl
def t70 (v900 v901 : AVal) : IT :=
 .call 51 [v900] fun v0 =>
 .op (.un .not) [v0] fun v1 =>
 .cnd v1 (
 .ret .ret [(.tuple [])]) (
 .op .nonnil [v900] fun v2 =>
 .op (.faddr 2) [v2] fun v3 =>
 .call 62 [v3] fun v4 =>
 .op (.int .sub) [v4, (I 1)] fun v5 =>
 .loop 2 [v5] (fun c6 =>
 .op (.int .geq) [(g c6 0), (I 0)] fun v7 =>
 .cnd v7 (
 .op .nonnil [v900] fun v8 =>
 .op (.faddr 2) [v8] fun v9 =>
 .call 112 [v9, (g c6 0)] fun v10 =>
 .cells 4 v10 fun c11 =>
 .op (.mksl 1) [v901] fun v12 =>
 .call 49 [(.agg [(g c11 0), (g c11 1), (g c11 2), (g c11 3)]), v12] fun v13 =>
 .cnd v13 (
 .op .nonnil [v900] fun v14 =>
 .op (.faddr 2) [v14] fun v15 =>
 .call 120 [v15, v901] fun v16 =>
 .op .nonnil [v900] fun v17 =>
 .op (.faddr 2) [v17] fun v18 =>
 .call 124 [v18, (g c11 0)] fun v19 =>
 .ret .ret [(g c6 0)]) (
 .pcall 107 [(g c11 1), (g c11 2)] fun v20 =>
 .cnd v20 (
 .ret .ret [(g c6 0)]) (
 .op (.int .sub) [(g c6 0), (I 1)] fun v21 =>
 .ret .normal [v21]))) (
 .ret (.exit 0) [(g c6 0)])) (
 fun x c22 => match x with
 | .normal =>
 .fail
 | .exit i =>
 if i = 0 then
 .ret .ret [(.tuple [])]
 else
 .fail
 | .ret =>
 .ret .ret [(.tuple [])]))
theorem t70_eq (v900 v901 : AVal) : afun cx 70 [v900, v901] = t70 v900 v901 := by kernel_rfl
def t71 (v900 : AVal) : IT :=
 .call 51 [v900] fun v0 =>
 .op (.un .not) [v0] fun v1 =>
 .cnd v1 (
 .ret .ret [(.tuple [])]) (
 .op .nonnil [v900] fun v2 =>
 .op (.faddr 2) [v2] fun v3 =>
 .call 117 [v3, (S [116,101,109,112,108,97,116,101])] fun v4 =>
 .op (.int .lss) [v4, (I 0)] fun v5 =>
 .cnd v5 (
 .ret .ret [(.tuple [])]) (
 .op .nonnil [v900] fun v6 =>
 .op (.faddr 2) [v6] fun v7 =>
 .call 125 [v7] fun v8 =>
 .op .nonnil [v900] fun v9 =>
 .op (.faddr 2) [v9] fun v10 =>
 .op (.mksl 1) [(S [116,101,109,112,108,97,116,101])] fun v11 =>
 .call 76 [v10, v11] fun v12 =>
 .op .nonnil [v900] fun v13 =>
 .op (.faddr 3) [v13] fun v14 =>
 .call 75 [v14] fun v15 =>
 .op .nonnil [v900] fun v16 =>
 .op (.faddr 6) [v16] fun v17 =>
 .load none v17 fun v18 =>
 .op (.len false) [v18] fun v19 =>
 .op (.int .gtr) [v19, (I 0)] fun v20 =>
 .cnd v20 (
 .op .nonnil [v900] fun v21 =>
 .op (.faddr 6) [v21] fun v22 =>
 .load none v22 fun v23 =>
 .op (.int .sub) [v19, (I 1)] fun v24 =>
 .op (.slc 1 false false true) [v23, v24] fun v25 =>
 .call 52 [v25] fun v26 =>
 .op .nonnil [v900] fun v27 =>
 .op (.faddr 6) [v27] fun v28 =>
 .store 1 v28 v26 (
 .call 50 [v900] fun v29 =>
 .ret .ret [(.tuple [])])) (
 .call 50 [v900] fun v30 =>
 .ret .ret [(.tuple [])])))
theorem t71_eq (v900 : AVal) : afun cx 71 [v900] = t71 v900 := by kernel_rfl
def t72 (v900 : AVal) : IT :=
 .call 51 [v900] fun v0 =>
 .cnd v0 (
 .op .nonnil [v900] fun v1 =>
 .op (.faddr 19) [v1] fun v2 =>
 .store 1 v2 tt (
 .ret .ret [(.tuple [])])) (
 .ret .ret [(.tuple [])])
theorem t72_eq (v900 : AVal) : afun cx 72 [v900] = t72 v900 := by kernel_rfl
def t73 (v900 : AVal) : IT :=
 .op (.peq true) [v900, (.ptr none)] fun v0 =>
 .cnd v0 (
 .op .nonnil [v900] fun v1 =>
 .op (.faddr 0) [v1] fun v2 =>
 .load none v2 fun v3 =>
 .op (.mkagg [(I 0), (S []), .slnil] []) [] fun v4 =>
 .op .nonnil [v900] fun v5 =>
 .op (.faddr 0) [v5] fun v6 =>
 .load none v6 fun v7 =>
 .op (.len false) [v7] fun v8 =>
 .call 126 [v3, v4, v8] fun v9 =>
 .op .nonnil [v900] fun v10 =>
 .op (.faddr 0) [v10] fun v11 =>
 .store 1 v11 v9 (
 .ret .ret [(.tuple [])])) (
 .ret .ret [(.tuple [])])
theorem t73_eq (v900 : AVal) : afun cx 73 [v900] = t73 v900 := by kernel_rfl
def t74 (v900 : AVal) : IT :=
 .call 62 [v900] fun v0 =>
 .op (.int .lss) [v0, (I 2)] fun v1 =>
 .cnd v1 (
 .op (.mkagg [(I 0), (I 0), (S []), ff] []) [] fun v2 =>
 .cells 4 v2 fun c3 =>
 .ret .ret [(.agg [(g c3 0), (g c3 1), (g c3 2), (g c3 3)])]) (
 .call 64 [v900] fun v4 =>
 .cells 4 v4 fun c5 =>
 .op .nonnil [v900] fun v6 =>
 .op (.faddr 0) [v6] fun v7 =>
 .load none v7 fun v8 =>
 .op .nonnil [v900] fun v9 =>
 .op (.faddr 0) [v9] fun v10 =>
 .load none v10 fun v11 =>
 .op (.len false) [v11] fun v12 =>
 .op (.int .sub) [v12, (I 1)] fun v13 =>
 .op (.slc 4 false false true) [v8, v13] fun v14 =>
 .op .nonnil [v900] fun v15 =>
 .op (.faddr 0) [v15] fun v16 =>
 .store 1 v16 v14 (
 .cells 4 (.agg [(g c5 0), (g c5 1), (g c5 2), (g c5 3)]) fun c17 =>
 .ret .ret [(.agg [(g c17 0), (g c17 1), (g c17 2), (g c17 3)])]))
theorem t74_eq (v900 : AVal) : afun cx 74 [v900] = t74 v900 := by kernel_rfl
def t75 (v900 : AVal) : IT :=
 .op (.peq false) [v900, (.ptr none)] fun v0 =>
 .cnd v0 (
 .ret .ret [(I 0)]) (
 .op .nonnil [v900] fun v1 =>
 .op (.faddr 0) [v1] fun v2 =>
 .load none v2 fun v3 =>
 .op (.len false) [v3] fun v4 =>
 .op .nonnil [v900] fun v5 =>
 .op (.faddr 0) [v5] fun v6 =>
 .load none v6 fun v7 =>
 .call 127 [v900] fun v8 =>
 .load none v6 fun v9 =>
 .same v7 v9 (
 .op (.int .sub) [v8, (I 1)] fun v10 =>
 .op (.minmax true) [v10, (I 0)] fun v11 =>
 .op (.slc 3 false false true) [v7, v11] fun v12 =>
 .op .nonnil [v900] fun v13 =>
 .op (.faddr 0) [v13] fun v14 =>
 .store 1 v14 v12 (
 .op .nonnil [v900] fun v15 =>
 .op (.faddr 0) [v15] fun v16 =>
 .load none v16 fun v17 =>
 .op (.len false) [v17] fun v18 =>
 .op (.int .sub) [v4, v18] fun v19 =>
 .ret .ret [v19])))
theorem t75_eq (v900 : AVal) : afun cx 75 [v900] = t75 v900 := by kernel_rfl
def t76 (v900 v901 : AVal) : IT :=
 .cells 1 v901 fun c0 =>
 .call 128 [v900, (.func (.func 129) [] []), (.func (.func 130) [] [(.rptr [(g c0 0)])])] fun v1 =>
 .ret .ret [v1]
theorem t76_eq (v900 v901 : AVal) : afun cx 76 [v900, v901] = t76 v900 v901 := by kernel_rfl
def t77 (v900 v901 : AVal) : IT :=
 .cells 3 v901 fun c0 =>
 .op (.peq false) [v900, (.ptr none)] fun v1 =>
 .cnd v1 (
 .ret .ret [(.tuple [])]) (
 .op (.int .neq) [(g c0 0), (I 0)] fun v2 =>
 .join 100011 (
 .cnd v2 (
 .op .nonnil [v900] fun v3 =>
 .op (.faddr 0) [v3] fun v4 =>
 .load none v4 fun v5 =>
 .op (.len false) [v5] fun v6 =>
 .op (.int .sub) [v6, (I 1)] fun v7 =>
 .loop 5 [(I 0), (I 0), v7] (fun c8 =>
 .call 127 [v900] fun v9 =>
 .op (.int .geq) [(g c8 2), v9] fun v10 =>
 .cnd v10 (
 .op .nonnil [v900] fun v11 =>
 .op (.faddr 0) [v11] fun v12 =>
 .load none v12 fun v13 =>
 .op (.eaddr 3) [v13, (g c8 2)] fun v14 =>
 .load (some 3) v14 fun v15 =>
 .call 132 [v15, (.agg [(g c0 0), (g c0 1), (g c0 2)])] fun v16 =>
 .join 100032 (
 .cnd v16 (
 .op (.int .add) [(g c8 1), (I 1)] fun v17 =>
 .ret .normal [(g c8 2), v17]) (
 .ret .normal [(g c8 0), (g c8 1)])) (
 fun x c18 => match x with
 | .normal =>
 .op (.int .sub) [(g c8 2), (I 1)] fun v19 =>
 .ret .normal [(g c18 0), (g c18 1), v19]
 | .exit i =>
 if i = 1 then
 .op (.int .sub) [(g c8 2), (I 1)] fun v20 =>
 .ret .normal [(g c18 0), (g c18 1), v20]
 else
 .ret (.exit i) [(g c18 0), (g c18 1), (g c8 2)]
 | .ret =>
 .ret .ret [(g c18 0), (g c18 1), (g c8 2)])) (
 .ret (.exit 0) [(g c8 0), (g c8 1), (g c8 2)])) (
 fun x c21 => match x with
 | .normal =>
 .fail
 | .exit i =>
 if i = 0 then
 .op (.int .geq) [(g c21 1), (I 3)] fun v22 =>
 .join 100037 (
 .cnd v22 (
 .op .nonnil [v900] fun v23 =>
 .op (.faddr 0) [v23] fun v24 =>
 .load none v24 fun v25 =>
 .call 133 [v25, (g c21 0)] fun v26 =>
 .op .nonnil [v900] fun v27 =>
 .op (.faddr 0) [v27] fun v28 =>
 .store 1 v28 v26 (
 .ret .normal [])) (
 .ret .normal [])) (
 fun x c29 => .ret x [])
 else
 .ret (.exit i) []
 | .ret =>
 .ret .ret [])) (
 .ret .normal [])) (
 fun x c30 => match x with
 | .normal =>
 .op .nonnil [v900] fun v31 =>
 .op (.faddr 0) [v31] fun v32 =>
 .load none v32 fun v33 =>
 .op .nonnil [v900] fun v34 =>
 .op (.faddr 0) [v34] fun v35 =>
 .load none v35 fun v36 =>
 .op (.len false) [v36] fun v37 =>
 .call 134 [(.agg [(g c0 0), (g c0 1), (g c0 2)])] fun v38 =>
 .load none v35 fun v39 =>
 .same v36 v39 (
 .load none v32 fun v40 =>
 .same v33 v40 (
 .call 126 [v33, v38, v37] fun v41 =>
 .op .nonnil [v900] fun v42 =>
 .op (.faddr 0) [v42] fun v43 =>
 .store 1 v43 v41 (
 .ret .ret [(.tuple [])])))
 | .exit i =>
 .fail
 | .ret =>
 .ret .ret [(.tuple [])]))
theorem t77_eq (v900 v901 : AVal) : afun cx 77 [v900, v901] = t77 v900 v901 := by kernel_rfl
def t78 (v900 v901 : AVal) : IT :=
 .op (.len false) [v900] fun v0 =>
 .loop 2 [(I 0), (I 0)] (fun c1 =>
 .op (.int .lss) [(g c1 1), v0] fun v2 =>
 .cnd v2 (
 .op (.eaddr 1) [v900, (g c1 1)] fun v3 =>
 .load none v3 fun v4 =>
 .op (.int .eql) [v901, v4] fun v5 =>
 .cnd v5 (
 .ret .ret [(g c1 1), (g c1 1)]) (
 .op (.int .add) [(g c1 1), (I 1)] fun v6 =>
 .ret .normal [(g c1 0), v6])) (
 .ret (.exit 0) [(g c1 0), (g c1 1)])) (
 fun x c7 => match x with
 | .normal =>
 .fail
 | .exit i =>
 if i = 0 then
 .ret .ret [(I (-1))]
 else
 .fail
 | .ret =>
 .ret .ret [(g c7 0)])
theorem t78_eq (v900 v901 : AVal) : afun cx 78 [v900, v901] = t78 v900 v901 := by kernel_rfl
def t79 (v900 v901 : AVal) : IT :=
 .op (.conv .u32) [v901] fun v0 =>
 .op (.int .leq) [v0, (.int .u32 127)] fun v1 =>
 .cnd v1 (
 .op (.conv .u8) [v901] fun v2 =>
 .op (.mksl 1) [v2] fun v3 =>
 .grow 1 1 v900 v3 fun v4 =>
 .ret .ret [v4]) (
 .call 135 [v900, v901] fun v5 =>
 .ret .ret [v5])
theorem t79_eq (v900 v901 : AVal) : afun cx 79 [v900, v901] = t79 v900 v901 := by kernel_rfl
def t80 (v900 v901 v902 : AVal) : IT :=
 .op (.mksl 1) [v901] fun v0 =>
 .call 56 [v900, v0] fun v1 =>
 .op (.int .neq) [v1, (I 0)] fun v2 =>
 .cnd v2 (
 .ret .ret [v1]) (
 .call 43 [v900, v901] fun v3 =>
 .op .nonnil [v3] fun v4 =>
 .op (.faddr 0) [v4] fun v5 =>
 .op (.faddr 0) [v5] fun v6 =>
 .load none v6 fun v7 =>
 .op (.int .neq) [v7, (I 5)] fun v8 =>
 .cnd v8 (
 .op .nonnil [v3] fun v9 =>
 .op (.faddr 0) [v9] fun v10 =>
 .op (.faddr 0) [v10] fun v11 =>
 .load none v11 fun v12 =>
 .op (.int .neq) [v12, (I 6)] fun v13 =>
 .cnd v13 (
 .ret .ret [(I 9)]) (
 .op .nonnil [v3] fun v14 =>
 .op (.faddr 0) [v14] fun v15 =>
 .op (.faddr 7) [v15] fun v16 =>
 .store 1 v16 v902 (
 .ret .ret [(I 0)]))) (
 .op .nonnil [v3] fun v17 =>
 .op (.faddr 0) [v17] fun v18 =>
 .op (.faddr 7) [v18] fun v19 =>
 .store 1 v19 v902 (
 .ret .ret [(I 0)])))
theorem t80_eq (v900 v901 v902 : AVal) : afun cx 80 [v900, v901, v902] = t80 v900 v901 v902 := by kernel_rfl
def t81 (v900 v901 v902 : AVal) : IT :=
 .op (.mkagg [(I 0), (I 0), .slnil, (I 0), (I 0), (S []), .slnil, (S []), (S []), (S []), ff, (I 0), (I 0)] [(0, 1), (7, 1)]) [(I 5), v902] fun v0 =>
 .call 44 [v900, v901, v0] fun v1 =>
 .op (.ext 0) [v1] fun v2 =>
 .op (.ext 1) [v1] fun v3 =>
 .ret .ret [(.tuple [v2, v3])]
theorem t81_eq (v900 v901 v902 : AVal) : afun cx 81 [v900, v901, v902] = t81 v900 v901 v902 := by kernel_rfl
def t82 (v900 v901 : AVal) : IT :=
 .op (.peq false) [v900, (.ptr none)] fun v0 =>
 .cnd v0 (
 .ret .ret [(I (-1))]) (
 .op (.int .eql) [v901, (I 0)] fun v1 =>
 .cnd v1 (
 .ret .ret [(I (-1))]) (
 .op .nonnil [v900] fun v2 =>
 .op (.faddr 0) [v2] fun v3 =>
 .load none v3 fun v4 =>
 .op (.len false) [v4] fun v5 =>
 .op (.int .sub) [v5, (I 1)] fun v6 =>
 .loop 4 [(I 0), v6] (fun c7 =>
 .op (.int .geq) [(g c7 1), (I 0)] fun v8 =>
 .cnd v8 (
 .op .nonnil [v900] fun v9 =>
 .op (.faddr 0) [v9] fun v10 =>
 .load none v10 fun v11 =>
 .op (.eaddr 3) [v11, (g c7 1)] fun v12 =>
 .op (.faddr 0) [v12] fun v13 =>
 .load none v13 fun v14 =>
 .op (.int .eql) [v14, v901] fun v15 =>
 .cnd v15 (
 .ret .ret [(g c7 1), (g c7 1)]) (
 .op (.int .sub) [(g c7 1), (I 1)] fun v16 =>
 .ret .normal [(g c7 0), v16])) (
 .ret (.exit 0) [(g c7 0), (g c7 1)])) (
 fun x c17 => match x with
 | .normal =>
 .fail
 | .exit i =>
 if i = 0 then
 .ret .ret [(I (-1))]
 else
 .fail
 | .ret =>
 .ret .ret [(g c17 0)])))
theorem t82_eq (v900 v901 : AVal) : afun cx 82 [v900, v901] = t82 v900 v901 := by kernel_rfl
def t83 (v900 v901 : AVal) : IT :=
 .op .nonnil [v900] fun v0 =>
 .op (.faddr 3) [v0] fun v1 =>
 .call 136 [v1, v901] fun v2 =>
 .op (.int .lss) [v2, (I 0)] fun v3 =>
 .cnd v3 (
 .call 70 [v900, v901] fun v4 =>
 .ret .ret [ff]) (
 .op .nonnil [v900] fun v5 =>
 .op (.faddr 3) [v5] fun v6 =>
 .op (.faddr 0) [v6] fun v7 =>
 .load none v7 fun v8 =>
 .op (.eaddr 3) [v8, v2] fun v9 =>
 .load (some 3) v9 fun v10 =>
 .op (.mkagg [(I 0), (S []), .slnil, (I 0), (I 0), (I 0), (I 0), (S []), ff, (I 0), (I 0), (S []), ff, (I 0)] [(0, 3), (3, 1), (4, 1)]) [v10, v2, v2] fun v11 =>
 .alloc 14 v11 fun v12 =>
 .op .nonnil [v12] fun v13 =>
 .op (.faddr 0) [v13] fun v14 =>
 .op (.faddr 0) [v14] fun v15 =>
 .load none v15 fun v16 =>
 .op .nonnil [v900] fun v17 =>
 .op (.faddr 2) [v17] fun v18 =>
 .call 121 [v18, v16] fun v19 =>
 .op (.int .lss) [v19, (I 0)] fun v20 =>
 .cnd v20 (
 .call 137 [v12, v900, v2] fun v21 =>
 .ret .ret [ff]) (
 .op (.int .eql) [v19, (I 0)] fun v22 =>
 .cnd v22 (
 .ret .ret [ff]) (
 .op .nonnil [v900] fun v23 =>
 .op (.faddr 2) [v23] fun v24 =>
 .call 138 [v24, (I 1), v16] fun v25 =>
 .op (.un .not) [v25] fun v26 =>
 .cnd v26 (
 .ret .ret [ff]) (
 .op .nonnil [v900] fun v27 =>
 .op (.faddr 2) [v27] fun v28 =>
 .call 139 [v28, v16] fun v29 =>
 .op (.int .lss) [v29, (I 0)] fun v30 =>
 .cnd v30 (
 .op .nonnil [v900] fun v31 =>
 .op (.faddr 2) [v31] fun v32 =>
 .call 124 [v32, v16] fun v33 =>
 .call 137 [v12, v900, v2] fun v34 =>
 .ret .ret [ff]) (
 .op .nonnil [v900] fun v35 =>
 .op (.faddr 2) [v35] fun v36 =>
 .op (.int .sub) [v19, (I 1)] fun v37 =>
 .op .nonnil [v900] fun v38 =>
 .op (.faddr 2) [v38] fun v39 =>
 .call 112 [v36, v37] fun v40 =>
 .call 112 [v39, v29] fun v41 =>
 .op .nonnil [v12] fun v42 =>
 .op (.faddr 5) [v42] fun v43 =>
 .store 4 v43 v40 (
 .op .nonnil [v12] fun v44 =>
 .op (.faddr 9) [v44] fun v45 =>
 .store 4 v45 v41 (
 .op .nonnil [v12] fun v46 =>
 .op (.faddr 9) [v46] fun v47 =>
 .op (.faddr 0) [v47] fun v48 =>
 .load none v48 fun v49 =>
 .op .nonnil [v12] fun v50 =>
 .op (.faddr 13) [v50] fun v51 =>
 .store 1 v51 v49 (
 .call 140 [v900, v12, v19, v29] fun v52 =>
 .op .nonnil [v12] fun v53 =>
 .op (.faddr 5) [v53] fun v54 =>
 .op (.faddr 0) [v54] fun v55 =>
 .load none v55 fun v56 =>
 .call 27 [v900, v56] fun v57 =>
 .op (.ext 0) [v57] fun v58 =>
 .op (.ext 1) [v57] fun v59 =>
 .op .nonnil [v12] fun v60 =>
 .op (.faddr 13) [v60] fun v61 =>
 .load none v61 fun v62 =>
 .call 46 [v900, v62, v58, v59] fun v63 =>
 .op .nonnil [v12] fun v64 =>
 .op (.faddr 0) [v64] fun v65 =>
 .load (some 3) v65 fun v66 =>
 .op .nonnil [v12] fun v67 =>
 .op (.faddr 9) [v67] fun v68 =>
 .op (.faddr 0) [v68] fun v69 =>
 .load none v69 fun v70 =>
 .call 123 [v66] fun v71 =>
 .load none v69 fun v72 =>
 .same v70 v72 (
 .call 45 [v900, v71, (I 1), v70] fun v73 =>
 .cells 4 v73 fun c74 =>
 .op .nonnil [v900] fun v75 =>
 .op (.faddr 0) [v75] fun v76 =>
 .load none v76 fun v77 =>
 .op .nonnil [v12] fun v78 =>
 .op (.faddr 9) [v78] fun v79 =>
 .op (.faddr 0) [v79] fun v80 =>
 .load none v80 fun v81 =>
 .call 103 [v77, v81] fun v82 =>
 .op (.len false) [v82] fun v83 =>
 .loop 25 [(I 0)] (fun c84 =>
 .op (.int .lss) [(g c84 0), v83] fun v85 =>
 .cnd v85 (
 .op (.eaddr 1) [v82, (g c84 0)] fun v86 =>
 .load none v86 fun v87 =>
 .call 46 [v900, v87, (g c74 0), (I 0)] fun v88 =>
 .op (.int .add) [(g c84 0), (I 1)] fun v89 =>
 .ret .normal [v89]) (
 .ret (.exit 0) [(g c84 0)])) (
 fun x c90 => match x with
 | .normal =>
 .fail
 | .exit i =>
 if i = 0 then
 .op .nonnil [v12] fun v91 =>
 .op (.faddr 9) [v91] fun v92 =>
 .op (.faddr 0) [v92] fun v93 =>
 .load none v93 fun v94 =>
 .call 46 [v900, (g c74 0), v94, (I 0)] fun v95 =>
 .op .nonnil [v12] fun v96 =>
 .op (.faddr 3) [v96] fun v97 =>
 .load none v97 fun v98 =>
 .call 137 [v12, v900, v98] fun v99 =>
 .op .nonnil [v900] fun v100 =>
 .op (.faddr 3) [v100] fun v101 =>
 .op .nonnil [v12] fun v102 =>
 .op (.faddr 0) [v102] fun v103 =>
 .op (.faddr 1) [v103] fun v104 =>
 .load none v104 fun v105 =>
 .op .nonnil [v12] fun v106 =>
 .op (.faddr 0) [v106] fun v107 =>
 .op (.faddr 2) [v107] fun v108 =>
 .load none v108 fun v109 =>
 .op (.mkagg [(I 0), (S []), .slnil] [(0, 1), (1, 1), (2, 1)]) [(g c74 0), v105, v109] fun v110 =>
 .op .nonnil [v12] fun v111 =>
 .op (.faddr 4) [v111] fun v112 =>
 .load none v112 fun v113 =>
 .call 141 [v101, v110, v113] fun v114 =>
 .op .nonnil [v900] fun v115 =>
 .op (.faddr 2) [v115] fun v116 =>
 .call 142 [v116, v16] fun v117 =>
 .op .nonnil [v900] fun v118 =>
 .op (.faddr 2) [v118] fun v119 =>
 .op .nonnil [v900] fun v120 =>
 .op (.faddr 2) [v120] fun v121 =>
 .op .nonnil [v12] fun v122 =>
 .op (.faddr 9) [v122] fun v123 =>
 .op (.faddr 0) [v123] fun v124 =>
 .load none v124 fun v125 =>
 .call 121 [v121, v125] fun v126 =>
 .op (.int .add) [v126, (I 1)] fun v127 =>
 .call 143 [v119, (.agg [(g c74 0), (g c74 1), (g c74 2), (g c74 3)]), v127] fun v128 =>
 .ret .ret [tt]
 else
 .fail
 | .ret =>
 .ret .ret [ff]))))))))))
theorem t83_eq (v900 v901 : AVal) : afun cx 83 [v900, v901] = t83 v900 v901 := by kernel_rfl
def t84 (v900 v901 : AVal) : IT :=
 .op (.peq true) [v900, (.ptr none)] fun v0 =>
 .cnd v0 (
 .op (.int .geq) [v901, (I 1)] fun v1 =>
 .cnd v1 (
 .op .nonnil [v900] fun v2 =>
 .op (.faddr 0) [v2] fun v3 =>
 .load none v3 fun v4 =>
 .op (.len false) [v4] fun v5 =>
 .op (.int .leq) [v901, v5] fun v6 =>
 .ret .ret [v6]) (
 .ret .ret [ff])) (
 .ret .ret [ff])
theorem t84_eq (v900 v901 : AVal) : afun cx 84 [v900, v901] = t84 v900 v901 := by kernel_rfl
def t87 (v900 v901 : AVal) : IT :=
 .cells 13 v901 fun c0 =>
 .op .nonnil [v900] fun v1 =>
 .op (.faddr 0) [v1] fun v2 =>
 .load none v2 fun v3 =>
 .op (.mksl 13) [(.agg [(g c0 0), (g c0 1), (g c0 2), (g c0 3), (g c0 4), (g c0 5), (g c0 6), (g c0 7), (g c0 8), (g c0 9), (g c0 10), (g c0 11), (g c0 12)])] fun v4 =>
 .grow 13 168 v3 v4 fun v5 =>
 .op .nonnil [v900] fun v6 =>
 .op (.faddr 0) [v6] fun v7 =>
 .store 1 v7 v5 (
 .op .nonnil [v900] fun v8 =>
 .op (.faddr 1) [v8] fun v9 =>
 .load none v9 fun v10 =>
 .op (.mksl 1) [(I 0)] fun v11 =>
 .grow 1 8 v10 v11 fun v12 =>
 .op .nonnil [v900] fun v13 =>
 .op (.faddr 1) [v13] fun v14 =>
 .store 1 v14 v12 (
 .op .nonnil [v900] fun v15 =>
 .op (.faddr 0) [v15] fun v16 =>
 .load none v16 fun v17 =>
 .op (.len false) [v17] fun v18 =>
 .op (.int .sub) [v18, (I 1)] fun v19 =>
 .ret .ret [v19]))
theorem t87_eq (v900 v901 : AVal) : afun cx 87 [v900, v901] = t87 v900 v901 := by kernel_rfl
def t88 (v900 v901 v902 v903 v904 : AVal) : IT :=
 .call 92 [v900, v901] fun v0 =>
 .op (.int .neq) [v0, (I 0)] fun v1 =>
 .cnd v1 (
 .ret .ret [(.tuple [(I 0), v0])]) (
 .pcall 148 [v902] fun v2 =>
 .op (.un .not) [v2] fun v3 =>
 .cnd v3 (
 .ret .ret [(.tuple [(I 0), (I 2)])]) (
 .call 149 [v904] fun v4 =>
 .op (.un .not) [v4] fun v5 =>
 .cnd v5 (
 .ret .ret [(.tuple [(I 0), (I 2)])]) (
 .call 150 [v904] fun v6 =>
 .op (.mkagg [(I 0), (I 0), .slnil, (I 0), (I 0), (S []), .slnil, (S []), (S []), (S []), ff, (I 0), (I 0)] [(0, 1), (3, 1), (4, 1), (5, 1), (6, 1)]) [(I 4), v901, v902, v903, v6] fun v7 =>
 .call 87 [v900, v7] fun v8 =>
 .op .nonnil [v900] fun v9 =>
 .op (.faddr 0) [v9] fun v10 =>
 .load none v10 fun v11 =>
 .op (.eaddr 13) [v11, v8] fun v12 =>
 .load (some 13) v12 fun v13 =>
 .call 151 [v13] fun v14 =>
 .cnd v14 (
 .call 152 [v900, v901] fun v15 =>
 .op (.mkagg [(I 0), (I 0), .slnil, (I 0), (I 0), (S []), .slnil, (S []), (S []), (S []), ff, (I 0), (I 0)] [(0, 1), (3, 1), (12, 1)]) [(I 2), v15, v8] fun v16 =>
 .call 87 [v900, v16] fun v17 =>
 .op .nonnil [v900] fun v18 =>
 .op (.faddr 0) [v18] fun v19 =>
 .load none v19 fun v20 =>
 .op (.eaddr 13) [v20, v8] fun v21 =>
 .op (.faddr 11) [v21] fun v22 =>
 .store 1 v22 v17 (
 .ret .ret [(.tuple [v8, (I 0)])])) (
 .ret .ret [(.tuple [v8, (I 0)])]))))
theorem t88_eq (v900 v901 v902 v903 v904 : AVal) : afun cx 88 [v900, v901, v902, v903, v904] = t88 v900 v901 v902 v903 v904 := by kernel_rfl
def t89 (v900 v901 v902 v903 : AVal) : IT :=
 .call 153 [v900, v901] fun v0 =>
 .op (.int .eql) [v0, (I 1)] fun v1 =>
 .cnd v1 (
 .call 153 [v900, v902] fun v2 =>
 .op (.int .eql) [v2, (I 4)] fun v3 =>
 .cnd v3 (
 .op .nonnil [v900] fun v4 =>
 .op (.faddr 0) [v4] fun v5 =>
 .load none v5 fun v6 =>
 .call 154 [v6, v901] fun v7 =>
 .loop 3 [(I 0)] (fun c8 =>
 .op (.len false) [v7] fun v9 =>
 .op (.int .lss) [(g c8 0), v9] fun v10 =>
 .cnd v10 (
 .op (.eaddr 1) [v7, (g c8 0)] fun v11 =>
 .load none v11 fun v12 =>
 .call 153 [v900, v12] fun v13 =>
 .op (.int .eql) [v13, (I 4)] fun v14 =>
 .cnd v14 (
 .ret .ret [(g c8 0)]) (
 .op (.int .add) [(g c8 0), (I 1)] fun v15 =>
 .ret .normal [v15])) (
 .ret (.exit 0) [(g c8 0)])) (
 fun x c16 => match x with
 | .normal =>
 .fail
 | .exit i =>
 if i = 0 then
 .op .nonnil [v900] fun v17 =>
 .op (.faddr 0) [v17] fun v18 =>
 .load none v18 fun v19 =>
 .call 155 [v19, v901, v902, v903] fun v20 =>
 .ret .ret [(.tuple [])]
 else
 .fail
 | .ret =>
 .ret .ret [(.tuple [])])) (
 .op .nonnil [v900] fun v21 =>
 .op (.faddr 0) [v21] fun v22 =>
 .load none v22 fun v23 =>
 .call 155 [v23, v901, v902, v903] fun v24 =>
 .ret .ret [(.tuple [])])) (
 .op .nonnil [v900] fun v25 =>
 .op (.faddr 0) [v25] fun v26 =>
 .load none v26 fun v27 =>
 .call 155 [v27, v901, v902, v903] fun v28 =>
 .ret .ret [(.tuple [])])
theorem t89_eq (v900 v901 v902 v903 : AVal) : afun cx 89 [v900, v901, v902, v903] = t89 v900 v901 v902 v903 := by kernel_rfl
def t90 (v900 v901 v902 : AVal) : IT :=
 .op (.int .eql) [v900, (I 2)] fun v0 =>
 .cnd v0 (
 .pcall 156 [(S [100,101,115,99,32,102,111,114,101,105,103,110,79,98,106,101,99,116,32,116,105,116,108,101]), v901] fun v1 =>
 .ret .ret [v1]) (
 .op (.int .neq) [v900, (I 3)] fun v2 =>
 .cnd v2 (
 .ret .ret [ff]) (
 .op (.str .neq) [v901, (S [97,110,110,111,116,97,116,105,111,110,45,120,109,108])] fun v3 =>
 .cnd v3 (
 .ret .ret [ff]) (
 .loop 6 [ff, (I 0)] (fun c4 =>
 .op (.len false) [v902] fun v5 =>
 .op (.int .lss) [(g c4 1), v5] fun v6 =>
 .cnd v6 (
 .op (.eaddr 3) [v902, (g c4 1)] fun v7 =>
 .op (.faddr 0) [v7] fun v8 =>
 .load none v8 fun v9 =>
 .op (.int .eql) [v9, (I 0)] fun v10 =>
 .cnd v10 (
 .op (.eaddr 3) [v902, (g c4 1)] fun v11 =>
 .op (.faddr 1) [v11] fun v12 =>
 .load none v12 fun v13 =>
 .op (.str .eql) [v13, (S [101,110,99,111,100,105,110,103])] fun v14 =>
 .cnd v14 (
 .op (.eaddr 3) [v902, (g c4 1)] fun v15 =>
 .op (.faddr 2) [v15] fun v16 =>
 .load none v16 fun v17 =>
 .pcall 157 [v17] fun v18 =>
 .op (.str .eql) [v18, (S [116,101,120,116,47,104,116,109,108])] fun v19 =>
 .cnd v19 (
 .ret .ret [tt, (g c4 1)]) (
 .op (.str .eql) [v18, (S [97,112,112,108,105,99,97,116,105,111,110,47,120,104,116,109,108,43,120,109,108])] fun v20 =>
 .ret .ret [v20, (g c4 1)])) (
 .op (.int .add) [(g c4 1), (I 1)] fun v21 =>
 .ret .normal [(g c4 0), v21])) (
 .op (.int .add) [(g c4 1), (I 1)] fun v22 =>
 .ret .normal [(g c4 0), v22])) (
 .ret (.exit 0) [(g c4 0), (g c4 1)])) (
 fun x c23 => match x with
 | .normal =>
 .fail
 | .exit i =>
 if i = 0 then
 .ret .ret [ff]
 else
 .fail
 | .ret =>
 .ret .ret [(g c23 0)]))))
theorem t90_eq (v900 v901 v902 : AVal) : afun cx 90 [v900, v901, v902] = t90 v900 v901 v902 := by kernel_rfl
def t91 (v900 : AVal) : IT :=
 .op .nonnil [v900] fun v0 =>
 .op (.faddr 2) [v0] fun v1 =>
 .load none v1 fun v2 =>
 .op (.len false) [v2] fun v3 =>
 .op (.int .sub) [v3, (I 1)] fun v4 =>
 .loop 1 [v4] (fun c5 =>
 .op (.int .geq) [(g c5 0), (I 0)] fun v6 =>
 .cnd v6 (
 .op .nonnil [v900] fun v7 =>
 .op (.faddr 2) [v7] fun v8 =>
 .load none v8 fun v9 =>
 .op (.eaddr 4) [v9, (g c5 0)] fun v10 =>
 .load (some 4) v10 fun v11 =>
 .op (.int .eql) [(g c5 0), (I 0)] fun v12 =>
 .cells 4 v11 fun c13 =>
 .cnd v12 (
 .op .nonnil [v900] fun v14 =>
 .op (.faddr 9) [v14] fun v15 =>
 .load none v15 fun v16 =>
 .cnd v16 (
 .op .nonnil [v900] fun v17 =>
 .op (.faddr 10) [v17] fun v18 =>
 .load (some 4) v18 fun v19 =>
 .cells 4 v19 fun c20 =>
 .call 158 [v900, (.agg [(g c20 0), (g c20 1), (g c20 2), (g c20 3)]), (g c5 0), v12] fun v21 =>
 .op (.ext 0) [v21] fun v22 =>
 .op (.ext 1) [v21] fun v23 =>
 .cnd v23 (
 .op .nonnil [v900] fun v24 =>
 .op (.faddr 4) [v24] fun v25 =>
 .store 1 v25 v22 (
 .ret .ret [(g c5 0)])) (
 .op (.int .sub) [(g c5 0), (I 1)] fun v26 =>
 .ret .normal [v26])) (
 .call 158 [v900, (.agg [(g c13 0), (g c13 1), (g c13 2), (g c13 3)]), (g c5 0), v12] fun v27 =>
 .op (.ext 0) [v27] fun v28 =>
 .op (.ext 1) [v27] fun v29 =>
 .cnd v29 (
 .op .nonnil [v900] fun v30 =>
 .op (.faddr 4) [v30] fun v31 =>
 .store 1 v31 v28 (
 .ret .ret [(g c5 0)])) (
 .op (.int .sub) [(g c5 0), (I 1)] fun v32 =>
 .ret .normal [v32]))) (
 .call 158 [v900, (.agg [(g c13 0), (g c13 1), (g c13 2), (g c13 3)]), (g c5 0), v12] fun v33 =>
 .op (.ext 0) [v33] fun v34 =>
 .op (.ext 1) [v33] fun v35 =>
 .cnd v35 (
 .op .nonnil [v900] fun v36 =>
 .op (.faddr 4) [v36] fun v37 =>
 .store 1 v37 v34 (
 .ret .ret [(g c5 0)])) (
 .op (.int .sub) [(g c5 0), (I 1)] fun v38 =>
 .ret .normal [v38]))) (
 .ret (.exit 0) [(g c5 0)])) (
 fun x c39 => match x with
 | .normal =>
 .fail
 | .exit i =>
 if i = 0 then
 .op .nonnil [v900] fun v40 =>
 .op (.faddr 4) [v40] fun v41 =>
 .store 1 v41 (I 7) (
 .ret .ret [(.tuple [])])
 else
 .fail
 | .ret =>
 .ret .ret [(.tuple [])])
theorem t91_eq (v900 : AVal) : afun cx 91 [v900] = t91 v900 := by kernel_rfl
def t92 (v900 v901 : AVal) : IT :=
 .call 159 [v900, v901] fun v0 =>
 .op (.un .not) [v0] fun v1 =>
 .cnd v1 (
 .ret .ret [(I 3)]) (
 .op .nonnil [v900] fun v2 =>
 .op (.faddr 0) [v2] fun v3 =>
 .load none v3 fun v4 =>
 .op (.eaddr 13) [v4, v901] fun v5 =>
 .op (.faddr 0) [v5] fun v6 =>
 .load none v6 fun v7 =>
 .op (.int .neq) [v7, (I 1)] fun v8 =>
 .cnd v8 (
 .ret .ret [(I 9)]) (
 .ret .ret [(I 0)]))
theorem t92_eq (v900 v901 : AVal) : afun cx 92 [v900, v901] = t92 v900 v901 := by kernel_rfl
def t93 (v900 : AVal) : IT :=
 .op .nonnil [v900] fun v0 =>
 .op (.faddr 0) [v0] fun v1 =>
 .load none v1 fun v2 =>
 .op (.len false) [v2] fun v3 =>
 .op (.int .sub) [v3, (I 1)] fun v4 =>
 .ret .ret [v4]
theorem t93_eq (v900 : AVal) : afun cx 93 [v900] = t93 v900 := by kernel_rfl
def t94 (v900 v901 : AVal) : IT :=
 .op (.len false) [v900] fun v0 =>
 .op (.len false) [v901] fun v1 =>
 .op (.int .neq) [v0, v1] fun v2 =>
 .cnd v2 (
 .ret .ret [ff]) (
 .loop 4 [ff, (I 0)] (fun c3 =>
 .op (.len false) [v900] fun v4 =>
 .op (.int .lss) [(g c3 1), v4] fun v5 =>
 .cnd v5 (
 .op (.eaddr 13) [v900, (g c3 1)] fun v6 =>
 .load (some 13) v6 fun v7 =>
 .op (.eaddr 13) [v901, (g c3 1)] fun v8 =>
 .load (some 13) v8 fun v9 =>
 .call 160 [v7, v9] fun v10 =>
 .op (.un .not) [v10] fun v11 =>
 .cnd v11 (
 .ret .ret [ff, (g c3 1)]) (
 .op (.int .add) [(g c3 1), (I 1)] fun v12 =>
 .ret .normal [(g c3 0), v12])) (
 .ret (.exit 0) [(g c3 0), (g c3 1)])) (
 fun x c13 => match x with
 | .normal =>
 .fail
 | .exit i =>
 if i = 0 then
 .ret .ret [tt]
 else
 .fail
 | .ret =>
 .ret .ret [(g c13 0)]))
theorem t94_eq (v900 v901 : AVal) : afun cx 94 [v900, v901] = t94 v900 v901 := by kernel_rfl
def t95 (v900 : AVal) : IT :=
 .op (.peq false) [v900, (.ptr none)] fun v0 =>
 .cnd v0 (
 .ret .ret [.slnil]) (
 .op .nonnil [v900] fun v1 =>
 .op (.faddr 0) [v1] fun v2 =>
 .load none v2 fun v3 =>
 .op (.len false) [v3] fun v4 =>
 .loop 5 [.slnil, (I 0)] (fun c5 =>
 .op (.int .lss) [(g c5 1), v4] fun v6 =>
 .cnd v6 (
 .op .nonnil [v900] fun v7 =>
 .op (.faddr 0) [v7] fun v8 =>
 .load none v8 fun v9 =>
 .op (.eaddr 13) [v9, (g c5 1)] fun v10 =>
 .call 57 [v10] fun v11 =>
 .op (.mksl 13) [v11] fun v12 =>
 .op (.append 13 168) [(g c5 0), v12] fun v13 =>
 .op (.int .add) [(g c5 1), (I 1)] fun v14 =>
 .ret .normal [v13, v14]) (
 .ret (.exit 0) [(g c5 0), (g c5 1)])) (
 fun x c15 => match x with
 | .normal =>
 .fail
 | .exit i =>
 if i = 0 then
 .ret .ret [(g c15 0)]
 else
 .fail
 | .ret =>
 .ret .ret [.slnil]))
theorem t95_eq (v900 : AVal) : afun cx 95 [v900] = t95 v900 := by kernel_rfl
def t96 (v900 : AVal) : IT :=
 .loop 3 [.slnil, (I 1)] (fun c0 =>
 .op .nonnil [v900] fun v1 =>
 .op (.faddr 0) [v1] fun v2 =>
 .load none v2 fun v3 =>
 .op (.len false) [v3] fun v4 =>
 .op (.int .lss) [(g c0 1), v4] fun v5 =>
 .cnd v5 (
 .op .nonnil [v900] fun v6 =>
 .op (.faddr 0) [v6] fun v7 =>
 .load none v7 fun v8 =>
 .op (.eaddr 13) [v8, (g c0 1)] fun v9 =>
 .load (some 13) v9 fun v10 =>
 .call 161 [v10] fun v11 =>
 .op (.mksl 13) [v11] fun v12 =>
 .op (.append 13 168) [(g c0 0), v12] fun v13 =>
 .op (.int .add) [(g c0 1), (I 1)] fun v14 =>
 .ret .normal [v13, v14]) (
 .ret (.exit 0) [(g c0 0), (g c0 1)])) (
 fun x c15 => match x with
 | .normal =>
 .fail
 | .exit i =>
 if i = 0 then
 .ret .ret [(g c15 0)]
 else
 .fail
 | .ret =>
 .ret .ret [.slnil])
theorem t96_eq (v900 : AVal) : afun cx 96 [v900] = t96 v900 := by kernel_rfl
def t97 (v900 v901 : AVal) : IT :=
 .op (.mksl 1) [v901] fun v0 =>
 .call 56 [v900, v0] fun v1 =>
 .op (.int .neq) [v1, (I 0)] fun v2 =>
 .cnd v2 (
 .ret .ret [v1]) (
 .call 43 [v900, v901] fun v3 =>
 .op .nonnil [v3] fun v4 =>
 .op (.faddr 0) [v4] fun v5 =>
 .op (.faddr 0) [v5] fun v6 =>
 .load none v6 fun v7 =>
 .op (.int .neq) [v7, (I 1)] fun v8 =>
 .cnd v8 (
 .ret .ret [(I 9)]) (
 .ret .ret [(I 0)]))
theorem t97_eq (v900 v901 : AVal) : afun cx 97 [v900, v901] = t97 v900 v901 := by kernel_rfl
def t98 (v900 v901 : AVal) : IT :=
 .mnew fun v0 =>
 .op (.mkagg [(I 0), (S []), (S [])] [(0, 1), (1, 1)]) [(I 4), (S [97,99,116,117,97,116,101])] fun v1 =>
 .mset v0 (S [120,108,105,110,107,58,97,99,116,117,97,116,101]) v1 (
 .op (.mkagg [(I 0), (S []), (S [])] [(0, 1), (1, 1)]) [(I 4), (S [97,114,99,114,111,108,101])] fun v2 =>
 .mset v0 (S [120,108,105,110,107,58,97,114,99,114,111,108,101]) v2 (
 .op (.mkagg [(I 0), (S []), (S [])] [(0, 1), (1, 1)]) [(I 4), (S [104,114,101,102])] fun v3 =>
 .mset v0 (S [120,108,105,110,107,58,104,114,101,102]) v3 (
 .op (.mkagg [(I 0), (S []), (S [])] [(0, 1), (1, 1)]) [(I 4), (S [114,111,108,101])] fun v4 =>
 .mset v0 (S [120,108,105,110,107,58,114,111,108,101]) v4 (
 .op (.mkagg [(I 0), (S []), (S [])] [(0, 1), (1, 1)]) [(I 4), (S [115,104,111,119])] fun v5 =>
 .mset v0 (S [120,108,105,110,107,58,115,104,111,119]) v5 (
 .op (.mkagg [(I 0), (S []), (S [])] [(0, 1), (1, 1)]) [(I 4), (S [116,105,116,108,101])] fun v6 =>
 .mset v0 (S [120,108,105,110,107,58,116,105,116,108,101]) v6 (
 .op (.mkagg [(I 0), (S []), (S [])] [(0, 1), (1, 1)]) [(I 4), (S [116,121,112,101])] fun v7 =>
 .mset v0 (S [120,108,105,110,107,58,116,121,112,101]) v7 (
 .op (.mkagg [(I 0), (S []), (S [])] [(0, 1), (1, 1)]) [(I 5), (S [108,97,110,103])] fun v8 =>
 .mset v0 (S [120,109,108,58,108,97,110,103]) v8 (
 .op (.mkagg [(I 0), (S []), (S [])] [(0, 1), (1, 1)]) [(I 5), (S [115,112,97,99,101])] fun v9 =>
 .mset v0 (S [120,109,108,58,115,112,97,99,101]) v9 (
 .op (.mkagg [(I 0), (S []), (S [])] [(0, 1), (1, 1)]) [(I 6), (S [120,109,108,110,115])] fun v10 =>
 .mset v0 (S [120,109,108,110,115]) v10 (
 .op (.mkagg [(I 0), (S []), (S [])] [(0, 1), (1, 1)]) [(I 6), (S [120,108,105,110,107])] fun v11 =>
 .mset v0 (S [120,109,108,110,115,58,120,108,105,110,107]) v11 (
 .op (.len false) [v901] fun v12 =>
 .loop 4 [.slnil, (I 0)] (fun c13 =>
 .op (.int .lss) [(g c13 1), v12] fun v14 =>
 .cnd v14 (
 .op (.eaddr 3) [v901, (g c13 1)] fun v15 =>
 .load (some 3) v15 fun v16 =>
 .cells 3 v16 fun c17 =>
 .op (.mkagg [(I 0), (S []), (S [])] [(1, 1), (2, 1)]) [(g c17 1), (g c17 2)] fun v18 =>
 .cells 3 v18 fun c19 =>
 .op (.int .eql) [v900, (I 2)] fun v20 =>
 .join 100036 (
 .cnd v20 (
 .pcall 162 [(g c17 1)] fun v21 =>
 .cells 1 v21 fun c22 =>
 .ret .normal [(.agg [(g c19 0), (g c22 0), (g c19 2)])]) (
 .join 200009 (
 .op (.int .eql) [v900, (I 3)] fun v23 =>
 .cnd v23 (
 .op (.str .eql) [(g c17 1), (S [100,101,102,105,110,105,116,105,111,110,117,114,108])] fun v24 =>
 .ret .normal [v24]) (
 .ret .normal [ff])) (
 fun x c25 => match x with
 | .normal =>
 .join 100043 (
 .cnd (g c25 0) (
 .cells 1 (S [100,101,102,105,110,105,116,105,111,110,85,82,76]) fun c26 =>
 .ret .normal [(.agg [(g c19 0), (g c26 0), (g c19 2)])]) (
 .ret .normal [(.agg [(g c19 0), (g c19 1), (g c19 2)])])) (
 fun x c27 => .cells 3 (g c27 0) fun c28 => .ret x [(.agg [(g c28 0), (g c28 1), (g c28 2)])])
 | .exit i =>
 .ret (.exit i) [(.agg [(g c19 0), (g c19 1), (g c19 2)])]
 | .ret =>
 .ret .ret [(.agg [(g c19 0), (g c19 1), (g c19 2)])]))) (
 fun x c29 => .cells 3 (g c29 0) fun c30 => match x with
 | .normal =>
 .mget (.agg [(I 0), (S []), (S [])]) true v0 (g c30 1) fun v31 =>
 .op (.ext 0) [v31] fun v32 =>
 .op (.ext 1) [v31] fun v33 =>
 .cells 3 v32 fun c34 =>
 .join 200012 (
 .cnd v33 (
 .op (.int .eql) [v900, (I 2)] fun v35 =>
 .cnd v35 (
 .ret .normal [tt]) (
 .op (.int .eql) [v900, (I 3)] fun v36 =>
 .ret .normal [v36])) (
 .ret .normal [ff])) (
 fun x c37 => match x with
 | .normal =>
 .join 100067 (
 .cnd (g c37 0) (
 .cells 1 (g c34 0) fun c38 =>
 .cells 1 (g c34 1) fun c39 =>
 .ret .normal [(.agg [(g c38 0), (g c39 0), (g c30 2)])]) (
 .ret .normal [(.agg [(g c30 0), (g c30 1), (g c30 2)])])) (
 fun x c40 => .cells 3 (g c40 0) fun c41 => match x with
 | .normal =>
 .op (.mksl 3) [(.agg [(g c41 0), (g c41 1), (g c41 2)])] fun v42 =>
 .op (.append 3 40) [(g c13 0), v42] fun v43 =>
 .op (.int .add) [(g c13 1), (I 1)] fun v44 =>
 .ret .normal [v43, v44]
 | .exit i =>
 if i = 1 then
 .op (.int .add) [(g c13 1), (I 1)] fun v45 =>
 .ret .normal [(g c13 0), v45]
 else
 .ret (.exit i) [(g c13 0), (g c13 1)]
 | .ret =>
 .ret .ret [(g c13 0), (g c13 1)])
 | .exit i =>
 if i = 1 then
 .op (.int .add) [(g c13 1), (I 1)] fun v46 =>
 .ret .normal [(g c13 0), v46]
 else
 .ret (.exit i) [(g c13 0), (g c13 1)]
 | .ret =>
 .ret .ret [(g c13 0), (g c13 1)])
 | .exit i =>
 if i = 2 then
 .mget (.agg [(I 0), (S []), (S [])]) true v0 (g c30 1) fun v47 =>
 .op (.ext 0) [v47] fun v48 =>
 .op (.ext 1) [v47] fun v49 =>
 .cells 3 v48 fun c50 =>
 .join 200012 (
 .cnd v49 (
 .op (.int .eql) [v900, (I 2)] fun v51 =>
 .cnd v51 (
 .ret .normal [tt]) (
 .op (.int .eql) [v900, (I 3)] fun v52 =>
 .ret .normal [v52])) (
 .ret .normal [ff])) (
 fun x c53 => match x with
 | .normal =>
 .join 100067 (
 .cnd (g c53 0) (
 .cells 1 (g c50 0) fun c54 =>
 .cells 1 (g c50 1) fun c55 =>
 .ret .normal [(.agg [(g c54 0), (g c55 0), (g c30 2)])]) (
 .ret .normal [(.agg [(g c30 0), (g c30 1), (g c30 2)])])) (
 fun x c56 => .cells 3 (g c56 0) fun c57 => match x with
 | .normal =>
 .op (.mksl 3) [(.agg [(g c57 0), (g c57 1), (g c57 2)])] fun v58 =>
 .op (.append 3 40) [(g c13 0), v58] fun v59 =>
 .op (.int .add) [(g c13 1), (I 1)] fun v60 =>
 .ret .normal [v59, v60]
 | .exit i =>
 if i = 1 then
 .op (.int .add) [(g c13 1), (I 1)] fun v61 =>
 .ret .normal [(g c13 0), v61]
 else
 .ret (.exit i) [(g c13 0), (g c13 1)]
 | .ret =>
 .ret .ret [(g c13 0), (g c13 1)])
 | .exit i =>
 if i = 1 then
 .op (.int .add) [(g c13 1), (I 1)] fun v62 =>
 .ret .normal [(g c13 0), v62]
 else
 .ret (.exit i) [(g c13 0), (g c13 1)]
 | .ret =>
 .ret .ret [(g c13 0), (g c13 1)])
 else
 if i = 1 then
 .op (.int .add) [(g c13 1), (I 1)] fun v63 =>
 .ret .normal [(g c13 0), v63]
 else
 .ret (.exit i) [(g c13 0), (g c13 1)]
 | .ret =>
 .ret .ret [(g c13 0), (g c13 1)])) (
 .ret (.exit 0) [(g c13 0), (g c13 1)])) (
 fun x c64 => match x with
 | .normal =>
 .fail
 | .exit i =>
 if i = 0 then
 .ret .ret [(g c64 0)]
 else
 .fail
 | .ret =>
 .ret .ret [.slnil]))))))))))))
theorem t98_eq (v900 v901 : AVal) : afun cx 98 [v900, v901] = t98 v900 v901 := by kernel_rfl
def t99 (v900 : AVal) : IT :=
 .pcall 163 [v900, (S [97,108,116,71,108,121,112,104,32,97,108,116,71,108,121,112,104,68,101,102,32,97,108,116,71,108,121,112,104,73,116,101,109,32,97,110,105,109,97,116,101,67,111,108,111,114,32,97,110,105,109,97,116,101,77,111,116,105,111,110,32,97,110,105,109,97,116,101,84,114,97,110,115,102,111,114,109,32,99,108,105,112,80,97,116,104,32,102,101,66,108,101,110,100,32,102,101,67,111,108,111,114,77,97,116,114,105,120,32,102,101,67,111,109,112,111,110,101,110,116,84,114,97,110,115,102,101,114,32,102,101,67,111,109,112,111,115,105,116,101,32,102,101,67,111,110,118,111,108,118,101,77,97,116,114,105,120,32,102,101,68,105,102,102,117,115,101,76,105,103,104,116,105,110,103,32,102,101,68,105,115,112,108,97,99,101,109,101,110,116,77,97,112,32,102,101,68,105,115,116,97,110,116,76,105,103,104,116,32,102,101,68,114,111,112,83,104,97,100,111,119,32,102,101,70,108,111,111,100,32,102,101,70,117,110,99,65,32,102,101,70,117,110,99,66,32,102,101,70,117,110,99,71,32,102,101,70,117,110,99,82,32,102,101,71,97,117,115,115,105,97,110,66,108,117,114,32,102,101,73,109,97,103,101,32,102,101,77,101,114,103,101,32,102,101,77,101,114,103,101,78,111,100,101,32,102,101,77,111,114,112,104,111,108,111,103,121,32,102,101,79,102,102,115,101,116,32,102,101,80,111,105,110,116,76,105,103,104,116,32,102,101,83,112,101,99,117,108,97,114,76,105,103,104,116,105,110,103,32,102,101,83,112,111,116,76,105,103,104,116,32,102,101,84,105,108,101,32,102,101,84,117,114,98,117,108,101,110,99,101,32,102,111,114,101,105,103,110,79,98,106,101,99,116,32,103,108,121,112,104,82,101,102,32,108,105,110,101,97,114,71,114,97,100,105,101,110,116,32,114,97,100,105,97,108,71,114,97,100,105,101,110,116,32,116,101,120,116,80,97,116,104])] fun v0 =>
 .ret .ret [v0]
theorem t99_eq (v900 : AVal) : afun cx 99 [v900] = t99 v900 := by kernel_rfl
def t100 (v900 v901 v902 v903 v904 : AVal) : IT :=
 .call 97 [v900, v901] fun v0 =>
 .op (.int .neq) [v0, (I 0)] fun v1 =>
 .cnd v1 (
 .ret .ret [(.tuple [(I 0), v0])]) (
 .call 116 [v904] fun v2 =>
 .op (.ext 0) [v2] fun v3 =>
 .op (.ext 1) [v2] fun v4 =>
 .op (.un .not) [v4] fun v5 =>
 .cnd v5 (
 .ret .ret [(.tuple [(I 0), (I 2)])]) (
 .op (.mksl 1) [v902] fun v6 =>
 .call 164 [v6] fun v7 =>
 .op (.un .not) [v7] fun v8 =>
 .cnd v8 (
 .ret .ret [(.tuple [(I 0), (I 2)])]) (
 .op (.mkagg [(I 0), (I 0), .slnil, (I 0), (I 0), (S []), .slnil, (S []), (S []), (S []), ff, (I 0), (I 0)] [(0, 1), (3, 1), (4, 1), (5, 1), (6, 1)]) [(I 4), v901, v902, v903, v3] fun v9 =>
 .call 42 [v900, v9] fun v10 =>
 .call 43 [v900, v10] fun v11 =>
 .call 165 [v11] fun v12 =>
 .cnd v12 (
 .call 166 [v900, v901] fun v13 =>
 .op (.mkagg [(I 0), (I 0), .slnil, (I 0), (I 0), (S []), .slnil, (S []), (S []), (S []), ff, (I 0), (I 0)] [(0, 1), (12, 1), (3, 1)]) [(I 2), v10, v13] fun v14 =>
 .call 42 [v900, v14] fun v15 =>
 .call 43 [v900, v10] fun v16 =>
 .op .nonnil [v16] fun v17 =>
 .op (.faddr 0) [v17] fun v18 =>
 .op (.faddr 11) [v18] fun v19 =>
 .store 1 v19 v15 (
 .ret .ret [(.tuple [v10, (I 0)])])) (
 .ret .ret [(.tuple [v10, (I 0)])]))))
theorem t100_eq (v900 v901 v902 v903 v904 : AVal) : afun cx 100 [v900, v901, v902, v903, v904] = t100 v900 v901 v902 v903 v904 := by kernel_rfl
def t101 (v900 v901 : AVal) : IT :=
 .call 58 [v900, v901] fun v0 =>
 .cells 13 v0 fun c1 =>
 .op (.int .neq) [(g c1 11), (I 0)] fun v2 =>
 .cnd v2 (
 .call 58 [v900, (g c1 11)] fun v3 =>
 .cells 13 v3 fun c4 =>
 .op (.int .neq) [(g c4 3), (I 0)] fun v5 =>
 .cnd v5 (
 .ret .ret [(g c4 3)]) (
 .op .nonnil [v900] fun v6 =>
 .op (.faddr 1) [v6] fun v7 =>
 .load none v7 fun v8 =>
 .ret .ret [v8])) (
 .op (.int .neq) [(g c1 3), (I 0)] fun v9 =>
 .cnd v9 (
 .ret .ret [(g c1 3)]) (
 .op .nonnil [v900] fun v10 =>
 .op (.faddr 1) [v10] fun v11 =>
 .load none v11 fun v12 =>
 .ret .ret [v12]))
theorem t101_eq (v900 v901 : AVal) : afun cx 101 [v900, v901] = t101 v900 v901 := by kernel_rfl
def t102 (v900 v901 : AVal) : IT :=
 .call 167 [v900, v901] fun v0 =>
 .op (.int .geq) [v0, (I 0)] fun v1 =>
 .ret .ret [v1]
theorem t102_eq (v900 v901 : AVal) : afun cx 102 [v900, v901] = t102 v900 v901 := by kernel_rfl
def t103 (v900 v901 : AVal) : IT :=
 .call 84 [v900, v901] fun v0 =>
 .op (.un .not) [v0] fun v1 =>
 .cnd v1 (
 .ret .ret [.slnil]) (
 .call 43 [v900, v901] fun v2 =>
 .op .nonnil [v2] fun v3 =>
 .op (.faddr 0) [v3] fun v4 =>
 .op (.faddr 2) [v4] fun v5 =>
 .load none v5 fun v6 =>
 .call 115 [v6] fun v7 =>
 .ret .ret [v7])
theorem t103_eq (v900 v901 : AVal) : afun cx 103 [v900, v901] = t103 v900 v901 := by kernel_rfl
def t104 (v900 v901 : AVal) : IT :=
 .load none v901 fun v0 =>
 .call 58 [v0, v900] fun v1 =>
 .op (.part 0 none) [v1] fun v2 =>
 .op (.int .eql) [v2, (I 4)] fun v3 =>
 .ret .ret [v3]
theorem t104_eq (v900 v901 : AVal) : afun cx 104 [v900, v901] = t104 v900 v901 := by kernel_rfl
def t105 (v900 v901 v902 v903 : AVal) : IT :=
 .op (.mksl 1) [v901, v902] fun v0 =>
 .call 56 [v900, v0] fun v1 =>
 .op (.int .neq) [v1, (I 0)] fun v2 =>
 .cnd v2 (
 .ret .ret [v1]) (
 .op (.int .neq) [v903, (I 0)] fun v3 =>
 .cnd v3 (
 .call 84 [v900, v903] fun v4 =>
 .op (.un .not) [v4] fun v5 =>
 .cnd v5 (
 .ret .ret [(I 3)]) (
 .call 43 [v900, v901] fun v6 =>
 .call 43 [v900, v902] fun v7 =>
 .op .nonnil [v6] fun v8 =>
 .op (.faddr 0) [v8] fun v9 =>
 .op (.faddr 0) [v9] fun v10 =>
 .load none v10 fun v11 =>
 .op (.int .neq) [v11, (I 1)] fun v12 =>
 .cnd v12 (
 .op .nonnil [v6] fun v13 =>
 .op (.faddr 0) [v13] fun v14 =>
 .op (.faddr 0) [v14] fun v15 =>
 .load none v15 fun v16 =>
 .op (.int .neq) [v16, (I 2)] fun v17 =>
 .cnd v17 (
 .op .nonnil [v6] fun v18 =>
 .op (.faddr 0) [v18] fun v19 =>
 .op (.faddr 0) [v19] fun v20 =>
 .load none v20 fun v21 =>
 .op (.int .neq) [v21, (I 4)] fun v22 =>
 .cnd v22 (
 .ret .ret [(I 4)]) (
 .op .nonnil [v7] fun v23 =>
 .op (.faddr 0) [v23] fun v24 =>
 .op (.faddr 0) [v24] fun v25 =>
 .load none v25 fun v26 =>
 .op (.int .eql) [v26, (I 1)] fun v27 =>
 .cnd v27 (
 .ret .ret [(I 4)]) (
 .op .nonnil [v7] fun v28 =>
 .op (.faddr 0) [v28] fun v29 =>
 .op (.faddr 0) [v29] fun v30 =>
 .load none v30 fun v31 =>
 .op (.int .eql) [v31, (I 2)] fun v32 =>
 .cnd v32 (
 .ret .ret [(I 4)]) (
 .call 168 [v900, v902, v901] fun v33 =>
 .cnd v33 (
 .ret .ret [(I 4)]) (
 .op (.int .neq) [v903, (I 0)] fun v34 =>
 .cnd v34 (
 .op (.int .eql) [v903, v902] fun v35 =>
 .cnd v35 (
 .ret .ret [(I 5)]) (
 .call 43 [v900, v903] fun v36 =>
 .op .nonnil [v36] fun v37 =>
 .op (.faddr 0) [v37] fun v38 =>
 .op (.faddr 1) [v38] fun v39 =>
 .load none v39 fun v40 =>
 .op (.int .neq) [v40, v901] fun v41 =>
 .cnd v41 (
 .ret .ret [(I 5)]) (
 .call 169 [v900, v902] fun v42 =>
 .op .nonnil [v6] fun v43 =>
 .op (.faddr 0) [v43] fun v44 =>
 .op (.faddr 2) [v44] fun v45 =>
 .load none v45 fun v46 =>
 .op (.len false) [v46] fun v47 =>
 .op (.int .neq) [v903, (I 0)] fun v48 =>
 .cnd v48 (
 .op .nonnil [v6] fun v49 =>
 .op (.faddr 0) [v49] fun v50 =>
 .op (.faddr 2) [v50] fun v51 =>
 .load none v51 fun v52 =>
 .call 78 [v52, v903] fun v53 =>
 .op .nonnil [v6] fun v54 =>
 .op (.faddr 0) [v54] fun v55 =>
 .op (.faddr 2) [v55] fun v56 =>
 .load none v56 fun v57 =>
 .op (.mksl 1) [v902] fun v58 =>
 .mem .insI [v57, v53, v58] fun v59 =>
 .op .nonnil [v6] fun v60 =>
 .op (.faddr 0) [v60] fun v61 =>
 .op (.faddr 2) [v61] fun v62 =>
 .store 1 v62 v59 (
 .op .nonnil [v7] fun v63 =>
 .op (.faddr 0) [v63] fun v64 =>
 .op (.faddr 1) [v64] fun v65 =>
 .store 1 v65 v901 (
 .ret .ret [(I 0)]))) (
 .op .nonnil [v6] fun v66 =>
 .op (.faddr 0) [v66] fun v67 =>
 .op (.faddr 2) [v67] fun v68 =>
 .load none v68 fun v69 =>
 .op (.mksl 1) [v902] fun v70 =>
 .mem .insI [v69, v47, v70] fun v71 =>
 .op .nonnil [v6] fun v72 =>
 .op (.faddr 0) [v72] fun v73 =>
 .op (.faddr 2) [v73] fun v74 =>
 .store 1 v74 v71 (
 .op .nonnil [v7] fun v75 =>
 .op (.faddr 0) [v75] fun v76 =>
 .op (.faddr 1) [v76] fun v77 =>
 .store 1 v77 v901 (
 .ret .ret [(I 0)])))))) (
 .call 169 [v900, v902] fun v78 =>
 .op .nonnil [v6] fun v79 =>
 .op (.faddr 0) [v79] fun v80 =>
 .op (.faddr 2) [v80] fun v81 =>
 .load none v81 fun v82 =>
 .op (.len false) [v82] fun v83 =>
 .op (.int .neq) [v903, (I 0)] fun v84 =>
 .cnd v84 (
 .op .nonnil [v6] fun v85 =>
 .op (.faddr 0) [v85] fun v86 =>
 .op (.faddr 2) [v86] fun v87 =>
 .load none v87 fun v88 =>
 .call 78 [v88, v903] fun v89 =>
 .op .nonnil [v6] fun v90 =>
 .op (.faddr 0) [v90] fun v91 =>
 .op (.faddr 2) [v91] fun v92 =>
 .load none v92 fun v93 =>
 .op (.mksl 1) [v902] fun v94 =>
 .mem .insI [v93, v89, v94] fun v95 =>
 .op .nonnil [v6] fun v96 =>
 .op (.faddr 0) [v96] fun v97 =>
 .op (.faddr 2) [v97] fun v98 =>
 .store 1 v98 v95 (
 .op .nonnil [v7] fun v99 =>
 .op (.faddr 0) [v99] fun v100 =>
 .op (.faddr 1) [v100] fun v101 =>
 .store 1 v101 v901 (
 .ret .ret [(I 0)]))) (
 .op .nonnil [v6] fun v102 =>
 .op (.faddr 0) [v102] fun v103 =>
 .op (.faddr 2) [v103] fun v104 =>
 .load none v104 fun v105 =>
 .op (.mksl 1) [v902] fun v106 =>
 .mem .insI [v105, v83, v106] fun v107 =>
 .op .nonnil [v6] fun v108 =>
 .op (.faddr 0) [v108] fun v109 =>
 .op (.faddr 2) [v109] fun v110 =>
 .store 1 v110 v107 (
 .op .nonnil [v7] fun v111 =>
 .op (.faddr 0) [v111] fun v112 =>
 .op (.faddr 1) [v112] fun v113 =>
 .store 1 v113 v901 (
 .ret .ret [(I 0)]))))))))) (
 .op .nonnil [v7] fun v114 =>
 .op (.faddr 0) [v114] fun v115 =>
 .op (.faddr 0) [v115] fun v116 =>
 .load none v116 fun v117 =>
 .op (.int .eql) [v117, (I 1)] fun v118 =>
 .cnd v118 (
 .ret .ret [(I 4)]) (
 .op .nonnil [v7] fun v119 =>
 .op (.faddr 0) [v119] fun v120 =>
 .op (.faddr 0) [v120] fun v121 =>
 .load none v121 fun v122 =>
 .op (.int .eql) [v122, (I 2)] fun v123 =>
 .cnd v123 (
 .ret .ret [(I 4)]) (
 .call 168 [v900, v902, v901] fun v124 =>
 .cnd v124 (
 .ret .ret [(I 4)]) (
 .op (.int .neq) [v903, (I 0)] fun v125 =>
 .cnd v125 (
 .op (.int .eql) [v903, v902] fun v126 =>
 .cnd v126 (
 .ret .ret [(I 5)]) (
 .call 43 [v900, v903] fun v127 =>
 .op .nonnil [v127] fun v128 =>
 .op (.faddr 0) [v128] fun v129 =>
 .op (.faddr 1) [v129] fun v130 =>
 .load none v130 fun v131 =>
 .op (.int .neq) [v131, v901] fun v132 =>
 .cnd v132 (
 .ret .ret [(I 5)]) (
 .call 169 [v900, v902] fun v133 =>
 .op .nonnil [v6] fun v134 =>
 .op (.faddr 0) [v134] fun v135 =>
 .op (.faddr 2) [v135] fun v136 =>
 .load none v136 fun v137 =>
 .op (.len false) [v137] fun v138 =>
 .op (.int .neq) [v903, (I 0)] fun v139 =>
 .cnd v139 (
 .op .nonnil [v6] fun v140 =>
 .op (.faddr 0) [v140] fun v141 =>
 .op (.faddr 2) [v141] fun v142 =>
 .load none v142 fun v143 =>
 .call 78 [v143, v903] fun v144 =>
 .op .nonnil [v6] fun v145 =>
 .op (.faddr 0) [v145] fun v146 =>
 .op (.faddr 2) [v146] fun v147 =>
 .load none v147 fun v148 =>
 .op (.mksl 1) [v902] fun v149 =>
 .mem .insI [v148, v144, v149] fun v150 =>
 .op .nonnil [v6] fun v151 =>
 .op (.faddr 0) [v151] fun v152 =>
 .op (.faddr 2) [v152] fun v153 =>
 .store 1 v153 v150 (
 .op .nonnil [v7] fun v154 =>
 .op (.faddr 0) [v154] fun v155 =>
 .op (.faddr 1) [v155] fun v156 =>
 .store 1 v156 v901 (
 .ret .ret [(I 0)]))) (
 .op .nonnil [v6] fun v157 =>
 .op (.faddr 0) [v157] fun v158 =>
 .op (.faddr 2) [v158] fun v159 =>
 .load none v159 fun v160 =>
 .op (.mksl 1) [v902] fun v161 =>
 .mem .insI [v160, v138, v161] fun v162 =>
 .op .nonnil [v6] fun v163 =>
 .op (.faddr 0) [v163] fun v164 =>
 .op (.faddr 2) [v164] fun v165 =>
 .store 1 v165 v162 (
 .op .nonnil [v7] fun v166 =>
 .op (.faddr 0) [v166] fun v167 =>
 .op (.faddr 1) [v167] fun v168 =>
 .store 1 v168 v901 (
 .ret .ret [(I 0)])))))) (
 .call 169 [v900, v902] fun v169 =>
 .op .nonnil [v6] fun v170 =>
 .op (.faddr 0) [v170] fun v171 =>
 .op (.faddr 2) [v171] fun v172 =>
 .load none v172 fun v173 =>
 .op (.len false) [v173] fun v174 =>
 .op (.int .neq) [v903, (I 0)] fun v175 =>
 .cnd v175 (
 .op .nonnil [v6] fun v176 =>
 .op (.faddr 0) [v176] fun v177 =>
 .op (.faddr 2) [v177] fun v178 =>
 .load none v178 fun v179 =>
 .call 78 [v179, v903] fun v180 =>
 .op .nonnil [v6] fun v181 =>
 .op (.faddr 0) [v181] fun v182 =>
 .op (.faddr 2) [v182] fun v183 =>
 .load none v183 fun v184 =>
 .op (.mksl 1) [v902] fun v185 =>
 .mem .insI [v184, v180, v185] fun v186 =>
 .op .nonnil [v6] fun v187 =>
 .op (.faddr 0) [v187] fun v188 =>
 .op (.faddr 2) [v188] fun v189 =>
 .store 1 v189 v186 (
 .op .nonnil [v7] fun v190 =>
 .op (.faddr 0) [v190] fun v191 =>
 .op (.faddr 1) [v191] fun v192 =>
 .store 1 v192 v901 (
 .ret .ret [(I 0)]))) (
 .op .nonnil [v6] fun v193 =>
 .op (.faddr 0) [v193] fun v194 =>
 .op (.faddr 2) [v194] fun v195 =>
 .load none v195 fun v196 =>
 .op (.mksl 1) [v902] fun v197 =>
 .mem .insI [v196, v174, v197] fun v198 =>
 .op .nonnil [v6] fun v199 =>
 .op (.faddr 0) [v199] fun v200 =>
 .op (.faddr 2) [v200] fun v201 =>
 .store 1 v201 v198 (
 .op .nonnil [v7] fun v202 =>
 .op (.faddr 0) [v202] fun v203 =>
 .op (.faddr 1) [v203] fun v204 =>
 .store 1 v204 v901 (
 .ret .ret [(I 0)]))))))))) (
 .op .nonnil [v7] fun v205 =>
 .op (.faddr 0) [v205] fun v206 =>
 .op (.faddr 0) [v206] fun v207 =>
 .load none v207 fun v208 =>
 .op (.int .eql) [v208, (I 1)] fun v209 =>
 .cnd v209 (
 .ret .ret [(I 4)]) (
 .op .nonnil [v7] fun v210 =>
 .op (.faddr 0) [v210] fun v211 =>
 .op (.faddr 0) [v211] fun v212 =>
 .load none v212 fun v213 =>
 .op (.int .eql) [v213, (I 2)] fun v214 =>
 .cnd v214 (
 .ret .ret [(I 4)]) (
 .call 168 [v900, v902, v901] fun v215 =>
 .cnd v215 (
 .ret .ret [(I 4)]) (
 .op (.int .neq) [v903, (I 0)] fun v216 =>
 .cnd v216 (
 .op (.int .eql) [v903, v902] fun v217 =>
 .cnd v217 (
 .ret .ret [(I 5)]) (
 .call 43 [v900, v903] fun v218 =>
 .op .nonnil [v218] fun v219 =>
 .op (.faddr 0) [v219] fun v220 =>
 .op (.faddr 1) [v220] fun v221 =>
 .load none v221 fun v222 =>
 .op (.int .neq) [v222, v901] fun v223 =>
 .cnd v223 (
 .ret .ret [(I 5)]) (
 .call 169 [v900, v902] fun v224 =>
 .op .nonnil [v6] fun v225 =>
 .op (.faddr 0) [v225] fun v226 =>
 .op (.faddr 2) [v226] fun v227 =>
 .load none v227 fun v228 =>
 .op (.len false) [v228] fun v229 =>
 .op (.int .neq) [v903, (I 0)] fun v230 =>
 .cnd v230 (
 .op .nonnil [v6] fun v231 =>
 .op (.faddr 0) [v231] fun v232 =>
 .op (.faddr 2) [v232] fun v233 =>
 .load none v233 fun v234 =>
 .call 78 [v234, v903] fun v235 =>
 .op .nonnil [v6] fun v236 =>
 .op (.faddr 0) [v236] fun v237 =>
 .op (.faddr 2) [v237] fun v238 =>
 .load none v238 fun v239 =>
 .op (.mksl 1) [v902] fun v240 =>
 .mem .insI [v239, v235, v240] fun v241 =>
 .op .nonnil [v6] fun v242 =>
 .op (.faddr 0) [v242] fun v243 =>
 .op (.faddr 2) [v243] fun v244 =>
 .store 1 v244 v241 (
 .op .nonnil [v7] fun v245 =>
 .op (.faddr 0) [v245] fun v246 =>
 .op (.faddr 1) [v246] fun v247 =>
 .store 1 v247 v901 (
 .ret .ret [(I 0)]))) (
 .op .nonnil [v6] fun v248 =>
 .op (.faddr 0) [v248] fun v249 =>
 .op (.faddr 2) [v249] fun v250 =>
 .load none v250 fun v251 =>
 .op (.mksl 1) [v902] fun v252 =>
 .mem .insI [v251, v229, v252] fun v253 =>
 .op .nonnil [v6] fun v254 =>
 .op (.faddr 0) [v254] fun v255 =>
 .op (.faddr 2) [v255] fun v256 =>
 .store 1 v256 v253 (
 .op .nonnil [v7] fun v257 =>
 .op (.faddr 0) [v257] fun v258 =>
 .op (.faddr 1) [v258] fun v259 =>
 .store 1 v259 v901 (
 .ret .ret [(I 0)])))))) (
 .call 169 [v900, v902] fun v260 =>
 .op .nonnil [v6] fun v261 =>
 .op (.faddr 0) [v261] fun v262 =>
 .op (.faddr 2) [v262] fun v263 =>
 .load none v263 fun v264 =>
 .op (.len false) [v264] fun v265 =>
 .op (.int .neq) [v903, (I 0)] fun v266 =>
 .cnd v266 (
 .op .nonnil [v6] fun v267 =>
 .op (.faddr 0) [v267] fun v268 =>
 .op (.faddr 2) [v268] fun v269 =>
 .load none v269 fun v270 =>
 .call 78 [v270, v903] fun v271 =>
 .op .nonnil [v6] fun v272 =>
 .op (.faddr 0) [v272] fun v273 =>
 .op (.faddr 2) [v273] fun v274 =>
 .load none v274 fun v275 =>
 .op (.mksl 1) [v902] fun v276 =>
 .mem .insI [v275, v271, v276] fun v277 =>
 .op .nonnil [v6] fun v278 =>
 .op (.faddr 0) [v278] fun v279 =>
 .op (.faddr 2) [v279] fun v280 =>
 .store 1 v280 v277 (
 .op .nonnil [v7] fun v281 =>
 .op (.faddr 0) [v281] fun v282 =>
 .op (.faddr 1) [v282] fun v283 =>
 .store 1 v283 v901 (
 .ret .ret [(I 0)]))) (
 .op .nonnil [v6] fun v284 =>
 .op (.faddr 0) [v284] fun v285 =>
 .op (.faddr 2) [v285] fun v286 =>
 .load none v286 fun v287 =>
 .op (.mksl 1) [v902] fun v288 =>
 .mem .insI [v287, v265, v288] fun v289 =>
 .op .nonnil [v6] fun v290 =>
 .op (.faddr 0) [v290] fun v291 =>
 .op (.faddr 2) [v291] fun v292 =>
 .store 1 v292 v289 (
 .op .nonnil [v7] fun v293 =>
 .op (.faddr 0) [v293] fun v294 =>
 .op (.faddr 1) [v294] fun v295 =>
 .store 1 v295 v901 (
 .ret .ret [(I 0)])))))))))) (
 .call 43 [v900, v901] fun v296 =>
 .call 43 [v900, v902] fun v297 =>
 .op .nonnil [v296] fun v298 =>
 .op (.faddr 0) [v298] fun v299 =>
 .op (.faddr 0) [v299] fun v300 =>
 .load none v300 fun v301 =>
 .op (.int .neq) [v301, (I 1)] fun v302 =>
 .cnd v302 (
 .op .nonnil [v296] fun v303 =>
 .op (.faddr 0) [v303] fun v304 =>
 .op (.faddr 0) [v304] fun v305 =>
 .load none v305 fun v306 =>
 .op (.int .neq) [v306, (I 2)] fun v307 =>
 .cnd v307 (
 .op .nonnil [v296] fun v308 =>
 .op (.faddr 0) [v308] fun v309 =>
 .op (.faddr 0) [v309] fun v310 =>
 .load none v310 fun v311 =>
 .op (.int .neq) [v311, (I 4)] fun v312 =>
 .cnd v312 (
 .ret .ret [(I 4)]) (
 .op .nonnil [v297] fun v313 =>
 .op (.faddr 0) [v313] fun v314 =>
 .op (.faddr 0) [v314] fun v315 =>
 .load none v315 fun v316 =>
 .op (.int .eql) [v316, (I 1)] fun v317 =>
 .cnd v317 (
 .ret .ret [(I 4)]) (
 .op .nonnil [v297] fun v318 =>
 .op (.faddr 0) [v318] fun v319 =>
 .op (.faddr 0) [v319] fun v320 =>
 .load none v320 fun v321 =>
 .op (.int .eql) [v321, (I 2)] fun v322 =>
 .cnd v322 (
 .ret .ret [(I 4)]) (
 .call 168 [v900, v902, v901] fun v323 =>
 .cnd v323 (
 .ret .ret [(I 4)]) (
 .op (.int .neq) [v903, (I 0)] fun v324 =>
 .cnd v324 (
 .op (.int .eql) [v903, v902] fun v325 =>
 .cnd v325 (
 .ret .ret [(I 5)]) (
 .call 43 [v900, v903] fun v326 =>
 .op .nonnil [v326] fun v327 =>
 .op (.faddr 0) [v327] fun v328 =>
 .op (.faddr 1) [v328] fun v329 =>
 .load none v329 fun v330 =>
 .op (.int .neq) [v330, v901] fun v331 =>
 .cnd v331 (
 .ret .ret [(I 5)]) (
 .call 169 [v900, v902] fun v332 =>
 .op .nonnil [v296] fun v333 =>
 .op (.faddr 0) [v333] fun v334 =>
 .op (.faddr 2) [v334] fun v335 =>
 .load none v335 fun v336 =>
 .op (.len false) [v336] fun v337 =>
 .op (.int .neq) [v903, (I 0)] fun v338 =>
 .cnd v338 (
 .op .nonnil [v296] fun v339 =>
 .op (.faddr 0) [v339] fun v340 =>
 .op (.faddr 2) [v340] fun v341 =>
 .load none v341 fun v342 =>
 .call 78 [v342, v903] fun v343 =>
 .op .nonnil [v296] fun v344 =>
 .op (.faddr 0) [v344] fun v345 =>
 .op (.faddr 2) [v345] fun v346 =>
 .load none v346 fun v347 =>
 .op (.mksl 1) [v902] fun v348 =>
 .mem .insI [v347, v343, v348] fun v349 =>
 .op .nonnil [v296] fun v350 =>
 .op (.faddr 0) [v350] fun v351 =>
 .op (.faddr 2) [v351] fun v352 =>
 .store 1 v352 v349 (
 .op .nonnil [v297] fun v353 =>
 .op (.faddr 0) [v353] fun v354 =>
 .op (.faddr 1) [v354] fun v355 =>
 .store 1 v355 v901 (
 .ret .ret [(I 0)]))) (
 .op .nonnil [v296] fun v356 =>
 .op (.faddr 0) [v356] fun v357 =>
 .op (.faddr 2) [v357] fun v358 =>
 .load none v358 fun v359 =>
 .op (.mksl 1) [v902] fun v360 =>
 .mem .insI [v359, v337, v360] fun v361 =>
 .op .nonnil [v296] fun v362 =>
 .op (.faddr 0) [v362] fun v363 =>
 .op (.faddr 2) [v363] fun v364 =>
 .store 1 v364 v361 (
 .op .nonnil [v297] fun v365 =>
 .op (.faddr 0) [v365] fun v366 =>
 .op (.faddr 1) [v366] fun v367 =>
 .store 1 v367 v901 (
 .ret .ret [(I 0)])))))) (
 .call 169 [v900, v902] fun v368 =>
 .op .nonnil [v296] fun v369 =>
 .op (.faddr 0) [v369] fun v370 =>
 .op (.faddr 2) [v370] fun v371 =>
 .load none v371 fun v372 =>
 .op (.len false) [v372] fun v373 =>
 .op (.int .neq) [v903, (I 0)] fun v374 =>
 .cnd v374 (
 .op .nonnil [v296] fun v375 =>
 .op (.faddr 0) [v375] fun v376 =>
 .op (.faddr 2) [v376] fun v377 =>
 .load none v377 fun v378 =>
 .call 78 [v378, v903] fun v379 =>
 .op .nonnil [v296] fun v380 =>
 .op (.faddr 0) [v380] fun v381 =>
 .op (.faddr 2) [v381] fun v382 =>
 .load none v382 fun v383 =>
 .op (.mksl 1) [v902] fun v384 =>
 .mem .insI [v383, v379, v384] fun v385 =>
 .op .nonnil [v296] fun v386 =>
 .op (.faddr 0) [v386] fun v387 =>
 .op (.faddr 2) [v387] fun v388 =>
 .store 1 v388 v385 (
 .op .nonnil [v297] fun v389 =>
 .op (.faddr 0) [v389] fun v390 =>
 .op (.faddr 1) [v390] fun v391 =>
 .store 1 v391 v901 (
 .ret .ret [(I 0)]))) (
 .op .nonnil [v296] fun v392 =>
 .op (.faddr 0) [v392] fun v393 =>
 .op (.faddr 2) [v393] fun v394 =>
 .load none v394 fun v395 =>
 .op (.mksl 1) [v902] fun v396 =>
 .mem .insI [v395, v373, v396] fun v397 =>
 .op .nonnil [v296] fun v398 =>
 .op (.faddr 0) [v398] fun v399 =>
 .op (.faddr 2) [v399] fun v400 =>
 .store 1 v400 v397 (
 .op .nonnil [v297] fun v401 =>
 .op (.faddr 0) [v401] fun v402 =>
 .op (.faddr 1) [v402] fun v403 =>
 .store 1 v403 v901 (
 .ret .ret [(I 0)]))))))))) (
 .op .nonnil [v297] fun v404 =>
 .op (.faddr 0) [v404] fun v405 =>
 .op (.faddr 0) [v405] fun v406 =>
 .load none v406 fun v407 =>
 .op (.int .eql) [v407, (I 1)] fun v408 =>
 .cnd v408 (
 .ret .ret [(I 4)]) (
 .op .nonnil [v297] fun v409 =>
 .op (.faddr 0) [v409] fun v410 =>
 .op (.faddr 0) [v410] fun v411 =>
 .load none v411 fun v412 =>
 .op (.int .eql) [v412, (I 2)] fun v413 =>
 .cnd v413 (
 .ret .ret [(I 4)]) (
 .call 168 [v900, v902, v901] fun v414 =>
 .cnd v414 (
 .ret .ret [(I 4)]) (
 .op (.int .neq) [v903, (I 0)] fun v415 =>
 .cnd v415 (
 .op (.int .eql) [v903, v902] fun v416 =>
 .cnd v416 (
 .ret .ret [(I 5)]) (
 .call 43 [v900, v903] fun v417 =>
 .op .nonnil [v417] fun v418 =>
 .op (.faddr 0) [v418] fun v419 =>
 .op (.faddr 1) [v419] fun v420 =>
 .load none v420 fun v421 =>
 .op (.int .neq) [v421, v901] fun v422 =>
 .cnd v422 (
 .ret .ret [(I 5)]) (
 .call 169 [v900, v902] fun v423 =>
 .op .nonnil [v296] fun v424 =>
 .op (.faddr 0) [v424] fun v425 =>
 .op (.faddr 2) [v425] fun v426 =>
 .load none v426 fun v427 =>
 .op (.len false) [v427] fun v428 =>
 .op (.int .neq) [v903, (I 0)] fun v429 =>
 .cnd v429 (
 .op .nonnil [v296] fun v430 =>
 .op (.faddr 0) [v430] fun v431 =>
 .op (.faddr 2) [v431] fun v432 =>
 .load none v432 fun v433 =>
 .call 78 [v433, v903] fun v434 =>
 .op .nonnil [v296] fun v435 =>
 .op (.faddr 0) [v435] fun v436 =>
 .op (.faddr 2) [v436] fun v437 =>
 .load none v437 fun v438 =>
 .op (.mksl 1) [v902] fun v439 =>
 .mem .insI [v438, v434, v439] fun v440 =>
 .op .nonnil [v296] fun v441 =>
 .op (.faddr 0) [v441] fun v442 =>
 .op (.faddr 2) [v442] fun v443 =>
 .store 1 v443 v440 (
 .op .nonnil [v297] fun v444 =>
 .op (.faddr 0) [v444] fun v445 =>
 .op (.faddr 1) [v445] fun v446 =>
 .store 1 v446 v901 (
 .ret .ret [(I 0)]))) (
 .op .nonnil [v296] fun v447 =>
 .op (.faddr 0) [v447] fun v448 =>
 .op (.faddr 2) [v448] fun v449 =>
 .load none v449 fun v450 =>
 .op (.mksl 1) [v902] fun v451 =>
 .mem .insI [v450, v428, v451] fun v452 =>
 .op .nonnil [v296] fun v453 =>
 .op (.faddr 0) [v453] fun v454 =>
 .op (.faddr 2) [v454] fun v455 =>
 .store 1 v455 v452 (
 .op .nonnil [v297] fun v456 =>
 .op (.faddr 0) [v456] fun v457 =>
 .op (.faddr 1) [v457] fun v458 =>
 .store 1 v458 v901 (
 .ret .ret [(I 0)])))))) (
 .call 169 [v900, v902] fun v459 =>
 .op .nonnil [v296] fun v460 =>
 .op (.faddr 0) [v460] fun v461 =>
 .op (.faddr 2) [v461] fun v462 =>
 .load none v462 fun v463 =>
 .op (.len false) [v463] fun v464 =>
 .op (.int .neq) [v903, (I 0)] fun v465 =>
 .cnd v465 (
 .op .nonnil [v296] fun v466 =>
 .op (.faddr 0) [v466] fun v467 =>
 .op (.faddr 2) [v467] fun v468 =>
 .load none v468 fun v469 =>
 .call 78 [v469, v903] fun v470 =>
 .op .nonnil [v296] fun v471 =>
 .op (.faddr 0) [v471] fun v472 =>
 .op (.faddr 2) [v472] fun v473 =>
 .load none v473 fun v474 =>
 .op (.mksl 1) [v902] fun v475 =>
 .mem .insI [v474, v470, v475] fun v476 =>
 .op .nonnil [v296] fun v477 =>
 .op (.faddr 0) [v477] fun v478 =>
 .op (.faddr 2) [v478] fun v479 =>
 .store 1 v479 v476 (
 .op .nonnil [v297] fun v480 =>
 .op (.faddr 0) [v480] fun v481 =>
 .op (.faddr 1) [v481] fun v482 =>
 .store 1 v482 v901 (
 .ret .ret [(I 0)]))) (
 .op .nonnil [v296] fun v483 =>
 .op (.faddr 0) [v483] fun v484 =>
 .op (.faddr 2) [v484] fun v485 =>
 .load none v485 fun v486 =>
 .op (.mksl 1) [v902] fun v487 =>
 .mem .insI [v486, v464, v487] fun v488 =>
 .op .nonnil [v296] fun v489 =>
 .op (.faddr 0) [v489] fun v490 =>
 .op (.faddr 2) [v490] fun v491 =>
 .store 1 v491 v488 (
 .op .nonnil [v297] fun v492 =>
 .op (.faddr 0) [v492] fun v493 =>
 .op (.faddr 1) [v493] fun v494 =>
 .store 1 v494 v901 (
 .ret .ret [(I 0)]))))))))) (
 .op .nonnil [v297] fun v495 =>
 .op (.faddr 0) [v495] fun v496 =>
 .op (.faddr 0) [v496] fun v497 =>
 .load none v497 fun v498 =>
 .op (.int .eql) [v498, (I 1)] fun v499 =>
 .cnd v499 (
 .ret .ret [(I 4)]) (
 .op .nonnil [v297] fun v500 =>
 .op (.faddr 0) [v500] fun v501 =>
 .op (.faddr 0) [v501] fun v502 =>
 .load none v502 fun v503 =>
 .op (.int .eql) [v503, (I 2)] fun v504 =>
 .cnd v504 (
 .ret .ret [(I 4)]) (
 .call 168 [v900, v902, v901] fun v505 =>
 .cnd v505 (
 .ret .ret [(I 4)]) (
 .op (.int .neq) [v903, (I 0)] fun v506 =>
 .cnd v506 (
 .op (.int .eql) [v903, v902] fun v507 =>
 .cnd v507 (
 .ret .ret [(I 5)]) (
 .call 43 [v900, v903] fun v508 =>
 .op .nonnil [v508] fun v509 =>
 .op (.faddr 0) [v509] fun v510 =>
 .op (.faddr 1) [v510] fun v511 =>
 .load none v511 fun v512 =>
 .op (.int .neq) [v512, v901] fun v513 =>
 .cnd v513 (
 .ret .ret [(I 5)]) (
 .call 169 [v900, v902] fun v514 =>
 .op .nonnil [v296] fun v515 =>
 .op (.faddr 0) [v515] fun v516 =>
 .op (.faddr 2) [v516] fun v517 =>
 .load none v517 fun v518 =>
 .op (.len false) [v518] fun v519 =>
 .op (.int .neq) [v903, (I 0)] fun v520 =>
 .cnd v520 (
 .op .nonnil [v296] fun v521 =>
 .op (.faddr 0) [v521] fun v522 =>
 .op (.faddr 2) [v522] fun v523 =>
 .load none v523 fun v524 =>
 .call 78 [v524, v903] fun v525 =>
 .op .nonnil [v296] fun v526 =>
 .op (.faddr 0) [v526] fun v527 =>
 .op (.faddr 2) [v527] fun v528 =>
 .load none v528 fun v529 =>
 .op (.mksl 1) [v902] fun v530 =>
 .mem .insI [v529, v525, v530] fun v531 =>
 .op .nonnil [v296] fun v532 =>
 .op (.faddr 0) [v532] fun v533 =>
 .op (.faddr 2) [v533] fun v534 =>
 .store 1 v534 v531 (
 .op .nonnil [v297] fun v535 =>
 .op (.faddr 0) [v535] fun v536 =>
 .op (.faddr 1) [v536] fun v537 =>
 .store 1 v537 v901 (
 .ret .ret [(I 0)]))) (
 .op .nonnil [v296] fun v538 =>
 .op (.faddr 0) [v538] fun v539 =>
 .op (.faddr 2) [v539] fun v540 =>
 .load none v540 fun v541 =>
 .op (.mksl 1) [v902] fun v542 =>
 .mem .insI [v541, v519, v542] fun v543 =>
 .op .nonnil [v296] fun v544 =>
 .op (.faddr 0) [v544] fun v545 =>
 .op (.faddr 2) [v545] fun v546 =>
 .store 1 v546 v543 (
 .op .nonnil [v297] fun v547 =>
 .op (.faddr 0) [v547] fun v548 =>
 .op (.faddr 1) [v548] fun v549 =>
 .store 1 v549 v901 (
 .ret .ret [(I 0)])))))) (
 .call 169 [v900, v902] fun v550 =>
 .op .nonnil [v296] fun v551 =>
 .op (.faddr 0) [v551] fun v552 =>
 .op (.faddr 2) [v552] fun v553 =>
 .load none v553 fun v554 =>
 .op (.len false) [v554] fun v555 =>
 .op (.int .neq) [v903, (I 0)] fun v556 =>
 .cnd v556 (
 .op .nonnil [v296] fun v557 =>
 .op (.faddr 0) [v557] fun v558 =>
 .op (.faddr 2) [v558] fun v559 =>
 .load none v559 fun v560 =>
 .call 78 [v560, v903] fun v561 =>
 .op .nonnil [v296] fun v562 =>
 .op (.faddr 0) [v562] fun v563 =>
 .op (.faddr 2) [v563] fun v564 =>
 .load none v564 fun v565 =>
 .op (.mksl 1) [v902] fun v566 =>
 .mem .insI [v565, v561, v566] fun v567 =>
 .op .nonnil [v296] fun v568 =>
 .op (.faddr 0) [v568] fun v569 =>
 .op (.faddr 2) [v569] fun v570 =>
 .store 1 v570 v567 (
 .op .nonnil [v297] fun v571 =>
 .op (.faddr 0) [v571] fun v572 =>
 .op (.faddr 1) [v572] fun v573 =>
 .store 1 v573 v901 (
 .ret .ret [(I 0)]))) (
 .op .nonnil [v296] fun v574 =>
 .op (.faddr 0) [v574] fun v575 =>
 .op (.faddr 2) [v575] fun v576 =>
 .load none v576 fun v577 =>
 .op (.mksl 1) [v902] fun v578 =>
 .mem .insI [v577, v555, v578] fun v579 =>
 .op .nonnil [v296] fun v580 =>
 .op (.faddr 0) [v580] fun v581 =>
 .op (.faddr 2) [v581] fun v582 =>
 .store 1 v582 v579 (
 .op .nonnil [v297] fun v583 =>
 .op (.faddr 0) [v583] fun v584 =>
 .op (.faddr 1) [v584] fun v585 =>
 .store 1 v585 v901 (
 .ret .ret [(I 0)]))))))))))
theorem t105_eq (v900 v901 v902 v903 : AVal) : afun cx 105 [v900, v901, v902, v903] = t105 v900 v901 v902 v903 := by kernel_rfl
end Go.Am
