/-
  The trees of the functions, written by a program; each is held against the code by the kernel. No law is claimed here.
-/
import Derived.Test.YtpikmmnpebamnaaGreatDoorCtx
import Derived.KernelRfl
namespace Go.Am
open Go
set_option linter.unusedVariables false
def t106 (v900 v901 v902 : AVal) : IT :=
 .cells 4 v901 fun c0 =>
 .op (.slc 4 false false true) [v900, v902] fun v1 =>
 .op (.append 4 40) [.slnil, v1] fun v2 =>
 .op (.mksl 4) [(.agg [(g c0 0), (g c0 1), (g c0 2), (g c0 3)])] fun v3 =>
 .op (.append 4 40) [v2, v3] fun v4 =>
 .op (.slc 4 false true false) [v900, v902] fun v5 =>
 .op (.append 4 40) [v4, v5] fun v6 =>
 .ret .ret [v6]
theorem t106_eq (v900 v901 v902 : AVal) : afun cx 106 [v900, v901, v902] = t106 v900 v901 v902 := by kernel_rfl
def t107 (v900 v901 : AVal) : IT :=
 .op (.int .eql) [v900, (I 3)] fun v0 =>
 .cnd v0 (
 .op (.str .eql) [v901, (S [97,110,110,111,116,97,116,105,111,110,45,120,109,108])] fun v1 =>
 .cnd v1 (
 .ret .ret [tt]) (
 .pcall 171 [v900, v901] fun v2 =>
 .ret .ret [v2])) (
 .op (.int .eql) [v900, (I 2)] fun v3 =>
 .cnd v3 (
 .op (.str .eql) [v901, (S [100,101,115,99])] fun v4 =>
 .cnd v4 (
 .ret .ret [tt]) (
 .op (.str .eql) [v901, (S [102,111,114,101,105,103,110,79,98,106,101,99,116])] fun v5 =>
 .cnd v5 (
 .ret .ret [tt]) (
 .op (.str .eql) [v901, (S [116,105,116,108,101])] fun v6 =>
 .ret .ret [v6]))) (
 .op (.int .eql) [v900, (I 1)] fun v7 =>
 .cnd v7 (
 .op (.str .eql) [v901, (S [97,100,100,114,101,115,115])] fun v8 =>
 .cnd v8 (
 .ret .ret [tt]) (
 .op (.str .eql) [v901, (S [97,112,112,108,101,116])] fun v9 =>
 .cnd v9 (
 .ret .ret [tt]) (
 .op (.str .eql) [v901, (S [97,114,101,97])] fun v10 =>
 .cnd v10 (
 .ret .ret [tt]) (
 .op (.str .eql) [v901, (S [97,114,116,105,99,108,101])] fun v11 =>
 .cnd v11 (
 .ret .ret [tt]) (
 .op (.str .eql) [v901, (S [97,115,105,100,101])] fun v12 =>
 .cnd v12 (
 .ret .ret [tt]) (
 .op (.str .eql) [v901, (S [98,97,115,101])] fun v13 =>
 .cnd v13 (
 .ret .ret [tt]) (
 .op (.str .eql) [v901, (S [98,97,115,101,102,111,110,116])] fun v14 =>
 .cnd v14 (
 .ret .ret [tt]) (
 .op (.str .eql) [v901, (S [98,103,115,111,117,110,100])] fun v15 =>
 .cnd v15 (
 .ret .ret [tt]) (
 .op (.str .eql) [v901, (S [98,108,111,99,107,113,117,111,116,101])] fun v16 =>
 .cnd v16 (
 .ret .ret [tt]) (
 .op (.str .eql) [v901, (S [98,111,100,121])] fun v17 =>
 .cnd v17 (
 .ret .ret [tt]) (
 .op (.str .eql) [v901, (S [98,114])] fun v18 =>
 .cnd v18 (
 .ret .ret [tt]) (
 .op (.str .eql) [v901, (S [98,117,116,116,111,110])] fun v19 =>
 .cnd v19 (
 .ret .ret [tt]) (
 .op (.str .eql) [v901, (S [99,97,112,116,105,111,110])] fun v20 =>
 .cnd v20 (
 .ret .ret [tt]) (
 .op (.str .eql) [v901, (S [99,101,110,116,101,114])] fun v21 =>
 .cnd v21 (
 .ret .ret [tt]) (
 .op (.str .eql) [v901, (S [99,111,108])] fun v22 =>
 .cnd v22 (
 .ret .ret [tt]) (
 .op (.str .eql) [v901, (S [99,111,108,103,114,111,117,112])] fun v23 =>
 .cnd v23 (
 .ret .ret [tt]) (
 .op (.str .eql) [v901, (S [100,100])] fun v24 =>
 .cnd v24 (
 .ret .ret [tt]) (
 .op (.str .eql) [v901, (S [100,101,116,97,105,108,115])] fun v25 =>
 .cnd v25 (
 .ret .ret [tt]) (
 .op (.str .eql) [v901, (S [100,105,114])] fun v26 =>
 .cnd v26 (
 .ret .ret [tt]) (
 .op (.str .eql) [v901, (S [100,105,118])] fun v27 =>
 .cnd v27 (
 .ret .ret [tt]) (
 .op (.str .eql) [v901, (S [100,108])] fun v28 =>
 .cnd v28 (
 .ret .ret [tt]) (
 .op (.str .eql) [v901, (S [100,116])] fun v29 =>
 .cnd v29 (
 .ret .ret [tt]) (
 .op (.str .eql) [v901, (S [101,109,98,101,100])] fun v30 =>
 .cnd v30 (
 .ret .ret [tt]) (
 .op (.str .eql) [v901, (S [102,105,101,108,100,115,101,116])] fun v31 =>
 .cnd v31 (
 .ret .ret [tt]) (
 .op (.str .eql) [v901, (S [102,105,103,99,97,112,116,105,111,110])] fun v32 =>
 .cnd v32 (
 .ret .ret [tt]) (
 .op (.str .eql) [v901, (S [102,105,103,117,114,101])] fun v33 =>
 .cnd v33 (
 .ret .ret [tt]) (
 .op (.str .eql) [v901, (S [102,111,111,116,101,114])] fun v34 =>
 .cnd v34 (
 .ret .ret [tt]) (
 .op (.str .eql) [v901, (S [102,111,114,109])] fun v35 =>
 .cnd v35 (
 .ret .ret [tt]) (
 .op (.str .eql) [v901, (S [102,114,97,109,101])] fun v36 =>
 .cnd v36 (
 .ret .ret [tt]) (
 .op (.str .eql) [v901, (S [102,114,97,109,101,115,101,116])] fun v37 =>
 .cnd v37 (
 .ret .ret [tt]) (
 .op (.str .eql) [v901, (S [104,49])] fun v38 =>
 .cnd v38 (
 .ret .ret [tt]) (
 .op (.str .eql) [v901, (S [104,50])] fun v39 =>
 .cnd v39 (
 .ret .ret [tt]) (
 .op (.str .eql) [v901, (S [104,51])] fun v40 =>
 .cnd v40 (
 .ret .ret [tt]) (
 .op (.str .eql) [v901, (S [104,52])] fun v41 =>
 .cnd v41 (
 .ret .ret [tt]) (
 .op (.str .eql) [v901, (S [104,53])] fun v42 =>
 .cnd v42 (
 .ret .ret [tt]) (
 .op (.str .eql) [v901, (S [104,54])] fun v43 =>
 .cnd v43 (
 .ret .ret [tt]) (
 .op (.str .eql) [v901, (S [104,101,97,100])] fun v44 =>
 .cnd v44 (
 .ret .ret [tt]) (
 .op (.str .eql) [v901, (S [104,101,97,100,101,114])] fun v45 =>
 .cnd v45 (
 .ret .ret [tt]) (
 .op (.str .eql) [v901, (S [104,103,114,111,117,112])] fun v46 =>
 .cnd v46 (
 .ret .ret [tt]) (
 .op (.str .eql) [v901, (S [104,114])] fun v47 =>
 .cnd v47 (
 .ret .ret [tt]) (
 .op (.str .eql) [v901, (S [104,116,109,108])] fun v48 =>
 .cnd v48 (
 .ret .ret [tt]) (
 .op (.str .eql) [v901, (S [105,102,114,97,109,101])] fun v49 =>
 .cnd v49 (
 .ret .ret [tt]) (
 .op (.str .eql) [v901, (S [105,109,103])] fun v50 =>
 .cnd v50 (
 .ret .ret [tt]) (
 .op (.str .eql) [v901, (S [105,110,112,117,116])] fun v51 =>
 .cnd v51 (
 .ret .ret [tt]) (
 .op (.str .eql) [v901, (S [107,101,121,103,101,110])] fun v52 =>
 .cnd v52 (
 .ret .ret [tt]) (
 .op (.str .eql) [v901, (S [108,105])] fun v53 =>
 .cnd v53 (
 .ret .ret [tt]) (
 .op (.str .eql) [v901, (S [108,105,110,107])] fun v54 =>
 .cnd v54 (
 .ret .ret [tt]) (
 .op (.str .eql) [v901, (S [108,105,115,116,105,110,103])] fun v55 =>
 .cnd v55 (
 .ret .ret [tt]) (
 .op (.str .eql) [v901, (S [109,97,105,110])] fun v56 =>
 .cnd v56 (
 .ret .ret [tt]) (
 .op (.str .eql) [v901, (S [109,97,114,113,117,101,101])] fun v57 =>
 .cnd v57 (
 .ret .ret [tt]) (
 .op (.str .eql) [v901, (S [109,101,110,117])] fun v58 =>
 .cnd v58 (
 .ret .ret [tt]) (
 .op (.str .eql) [v901, (S [109,101,116,97])] fun v59 =>
 .cnd v59 (
 .ret .ret [tt]) (
 .op (.str .eql) [v901, (S [110,97,118])] fun v60 =>
 .cnd v60 (
 .ret .ret [tt]) (
 .op (.str .eql) [v901, (S [110,111,101,109,98,101,100])] fun v61 =>
 .cnd v61 (
 .ret .ret [tt]) (
 .op (.str .eql) [v901, (S [110,111,102,114,97,109,101,115])] fun v62 =>
 .cnd v62 (
 .ret .ret [tt]) (
 .op (.str .eql) [v901, (S [110,111,115,99,114,105,112,116])] fun v63 =>
 .cnd v63 (
 .ret .ret [tt]) (
 .op (.str .eql) [v901, (S [111,98,106,101,99,116])] fun v64 =>
 .cnd v64 (
 .ret .ret [tt]) (
 .op (.str .eql) [v901, (S [111,108])] fun v65 =>
 .cnd v65 (
 .ret .ret [tt]) (
 .op (.str .eql) [v901, (S [112])] fun v66 =>
 .cnd v66 (
 .ret .ret [tt]) (
 .op (.str .eql) [v901, (S [112,97,114,97,109])] fun v67 =>
 .cnd v67 (
 .ret .ret [tt]) (
 .op (.str .eql) [v901, (S [112,108,97,105,110,116,101,120,116])] fun v68 =>
 .cnd v68 (
 .ret .ret [tt]) (
 .op (.str .eql) [v901, (S [112,114,101])] fun v69 =>
 .cnd v69 (
 .ret .ret [tt]) (
 .op (.str .eql) [v901, (S [115,99,114,105,112,116])] fun v70 =>
 .cnd v70 (
 .ret .ret [tt]) (
 .op (.str .eql) [v901, (S [115,101,97,114,99,104])] fun v71 =>
 .cnd v71 (
 .ret .ret [tt]) (
 .op (.str .eql) [v901, (S [115,101,99,116,105,111,110])] fun v72 =>
 .cnd v72 (
 .ret .ret [tt]) (
 .op (.str .eql) [v901, (S [115,101,108,101,99,116])] fun v73 =>
 .cnd v73 (
 .ret .ret [tt]) (
 .op (.str .eql) [v901, (S [115,111,117,114,99,101])] fun v74 =>
 .cnd v74 (
 .ret .ret [tt]) (
 .op (.str .eql) [v901, (S [115,116,121,108,101])] fun v75 =>
 .cnd v75 (
 .ret .ret [tt]) (
 .op (.str .eql) [v901, (S [115,117,109,109,97,114,121])] fun v76 =>
 .cnd v76 (
 .ret .ret [tt]) (
 .op (.str .eql) [v901, (S [116,97,98,108,101])] fun v77 =>
 .cnd v77 (
 .ret .ret [tt]) (
 .op (.str .eql) [v901, (S [116,98,111,100,121])] fun v78 =>
 .cnd v78 (
 .ret .ret [tt]) (
 .op (.str .eql) [v901, (S [116,100])] fun v79 =>
 .cnd v79 (
 .ret .ret [tt]) (
 .op (.str .eql) [v901, (S [116,101,109,112,108,97,116,101])] fun v80 =>
 .cnd v80 (
 .ret .ret [tt]) (
 .op (.str .eql) [v901, (S [116,101,120,116,97,114,101,97])] fun v81 =>
 .cnd v81 (
 .ret .ret [tt]) (
 .op (.str .eql) [v901, (S [116,102,111,111,116])] fun v82 =>
 .cnd v82 (
 .ret .ret [tt]) (
 .op (.str .eql) [v901, (S [116,104])] fun v83 =>
 .cnd v83 (
 .ret .ret [tt]) (
 .op (.str .eql) [v901, (S [116,104,101,97,100])] fun v84 =>
 .cnd v84 (
 .ret .ret [tt]) (
 .op (.str .eql) [v901, (S [116,105,116,108,101])] fun v85 =>
 .cnd v85 (
 .ret .ret [tt]) (
 .op (.str .eql) [v901, (S [116,114])] fun v86 =>
 .cnd v86 (
 .ret .ret [tt]) (
 .op (.str .eql) [v901, (S [116,114,97,99,107])] fun v87 =>
 .cnd v87 (
 .ret .ret [tt]) (
 .op (.str .eql) [v901, (S [117,108])] fun v88 =>
 .cnd v88 (
 .ret .ret [tt]) (
 .op (.str .eql) [v901, (S [119,98,114])] fun v89 =>
 .cnd v89 (
 .ret .ret [tt]) (
 .op (.str .eql) [v901, (S [120,109,112])] fun v90 =>
 .cnd v90 (
 .ret .ret [tt]) (
 .ret .ret [ff])))))))))))))))))))))))))))))))))))))))))))))))))))))))))))))))))))))))))))))))))))) (
 .ret .ret [ff])))
theorem t107_eq (v900 v901 : AVal) : afun cx 107 [v900, v901] = t107 v900 v901 := by kernel_rfl
def t108 (v900 v901 : AVal) : IT :=
 .op (.len false) [v900] fun v0 =>
 .loop 2 [(I 0), (I 0)] (fun c1 =>
 .op (.int .lss) [(g c1 1), v0] fun v2 =>
 .cnd v2 (
 .op (.eaddr 3) [v900, (g c1 1)] fun v3 =>
 .load (some 3) v3 fun v4 =>
 .callv v901 [v4] fun v5 =>
 .cnd v5 (
 .ret .ret [(g c1 1), (g c1 1)]) (
 .op (.int .add) [(g c1 1), (I 1)] fun v6 =>
 .ret .normal [(g c1 0), v6])) (
 .ret (.exit 0) [(g c1 0), (g c1 1)])) (
 fun x c7 => match x with
 | .normal =>
 .fail
 | .exit i =>
 if i = 0 then
 .ret .ret [(I (-1))]
 else
 .fail
 | .ret =>
 .ret .ret [(g c7 0)])
theorem t108_eq (v900 v901 : AVal) : afun cx 108 [v900, v901] = t108 v900 v901 := by kernel_rfl
def t109 (v900 : AVal) : IT :=
 .cells 3 v900 fun c0 =>
 .op (.int .eql) [(g c0 0), (I 0)] fun v1 =>
 .cnd v1 (
 .op (.str .eql) [(g c0 1), (S [101,110,99,111,100,105,110,103])] fun v2 =>
 .ret .ret [v2]) (
 .ret .ret [ff])
theorem t109_eq (v900 : AVal) : afun cx 109 [v900] = t109 v900 := by kernel_rfl
def t110 (v900 v901 : AVal) : IT :=
 .pcall 172 [v900] fun v0 =>
 .pcall 172 [v901] fun v1 =>
 .op (.str .eql) [v0, v1] fun v2 =>
 .ret .ret [v2]
theorem t110_eq (v900 v901 : AVal) : afun cx 110 [v900, v901] = t110 v900 v901 := by kernel_rfl
def t111 (v900 v901 : AVal) : IT :=
 .call 173 [v900, v901] fun v0 =>
 .op (.int .geq) [v0, (I 0)] fun v1 =>
 .ret .ret [v1]
theorem t111_eq (v900 v901 : AVal) : afun cx 111 [v900, v901] = t111 v900 v901 := by kernel_rfl
def t112 (v900 v901 : AVal) : IT :=
 .op (.int .lss) [v901, (I 0)] fun v0 =>
 .cnd v0 (
 .op (.mkagg [(I 0), (I 0), (S []), ff] []) [] fun v1 =>
 .cells 4 v1 fun c2 =>
 .ret .ret [(.agg [(g c2 0), (g c2 1), (g c2 2), (g c2 3)])]) (
 .call 62 [v900] fun v3 =>
 .op (.int .geq) [v901, v3] fun v4 =>
 .cnd v4 (
 .op (.mkagg [(I 0), (I 0), (S []), ff] []) [] fun v5 =>
 .cells 4 v5 fun c6 =>
 .ret .ret [(.agg [(g c6 0), (g c6 1), (g c6 2), (g c6 3)])]) (
 .op .nonnil [v900] fun v7 =>
 .op (.faddr 0) [v7] fun v8 =>
 .load none v8 fun v9 =>
 .op (.eaddr 4) [v9, v901] fun v10 =>
 .load (some 4) v10 fun v11 =>
 .cells 4 v11 fun c12 =>
 .ret .ret [(.agg [(g c12 0), (g c12 1), (g c12 2), (g c12 3)])]))
theorem t112_eq (v900 v901 : AVal) : afun cx 112 [v900, v901] = t112 v900 v901 := by kernel_rfl
def t113 (v900 v901 v902 : AVal) : IT :=
 .cells 4 v901 fun c0 =>
 .call 174 [] fun v1 =>
 .op (.len false) [v1] fun v2 =>
 .loop 2 [(I 0), ff, (I 0)] (fun c3 =>
 .op (.int .lss) [(g c3 2), v2] fun v4 =>
 .cnd v4 (
 .op (.eaddr 2) [v1, (g c3 2)] fun v5 =>
 .load (some 2) v5 fun v6 =>
 .cells 2 v6 fun c7 =>
 .op (.mksl 1) [(g c7 0)] fun v8 =>
 .call 49 [(.agg [(g c0 0), (g c0 1), (g c0 2), (g c0 3)]), v8] fun v9 =>
 .cnd v9 (
 .ret .ret [(g c7 1), tt, (g c3 2)]) (
 .op (.int .add) [(g c3 2), (I 1)] fun v10 =>
 .ret .normal [(g c3 0), (g c3 1), v10])) (
 .ret (.exit 0) [(g c3 0), (g c3 1), (g c3 2)])) (
 fun x c11 => match x with
 | .normal =>
 .fail
 | .exit i =>
 if i = 0 then
 .op (.mksl 1) [(S [115,101,108,101,99,116])] fun v12 =>
 .call 49 [(.agg [(g c0 0), (g c0 1), (g c0 2), (g c0 3)]), v12] fun v13 =>
 .cnd v13 (
 .call 175 [v900, v902] fun v14 =>
 .ret .ret [(.tuple [v14, tt])]) (
 .op (.mksl 1) [(S [116,100]), (S [116,104])] fun v15 =>
 .call 49 [(.agg [(g c0 0), (g c0 1), (g c0 2), (g c0 3)]), v15] fun v16 =>
 .cnd v16 (
 .op (.int .gtr) [v902, (I 0)] fun v17 =>
 .cnd v17 (
 .ret .ret [(.tuple [(I 15), tt])]) (
 .op (.mksl 1) [(S [116,101,109,112,108,97,116,101])] fun v18 =>
 .call 49 [(.agg [(g c0 0), (g c0 1), (g c0 2), (g c0 3)]), v18] fun v19 =>
 .cnd v19 (
 .op .nonnil [v900] fun v20 =>
 .op (.faddr 6) [v20] fun v21 =>
 .load none v21 fun v22 =>
 .op (.len false) [v22] fun v23 =>
 .op (.int .gtr) [v23, (I 0)] fun v24 =>
 .cnd v24 (
 .op .nonnil [v900] fun v25 =>
 .op (.faddr 6) [v25] fun v26 =>
 .load none v26 fun v27 =>
 .op (.int .sub) [v23, (I 1)] fun v28 =>
 .op (.eaddr 1) [v27, v28] fun v29 =>
 .load none v29 fun v30 =>
 .ret .ret [(.tuple [v30, tt])]) (
 .ret .ret [(.tuple [(I 7), tt])])) (
 .op (.mksl 1) [(S [104,101,97,100])] fun v31 =>
 .call 49 [(.agg [(g c0 0), (g c0 1), (g c0 2), (g c0 3)]), v31] fun v32 =>
 .cnd v32 (
 .op (.int .gtr) [v902, (I 0)] fun v33 =>
 .cnd v33 (
 .ret .ret [(.tuple [(I 4), tt])]) (
 .op (.mksl 1) [(S [104,116,109,108])] fun v34 =>
 .call 49 [(.agg [(g c0 0), (g c0 1), (g c0 2), (g c0 3)]), v34] fun v35 =>
 .cnd v35 (
 .op .nonnil [v900] fun v36 =>
 .op (.faddr 7) [v36] fun v37 =>
 .load none v37 fun v38 =>
 .op (.int .eql) [v38, (I 0)] fun v39 =>
 .cnd v39 (
 .ret .ret [(.tuple [(I 3), tt])]) (
 .ret .ret [(.tuple [(I 6), tt])])) (
 .op (.int .eql) [v902, (I 0)] fun v40 =>
 .ret .ret [(.tuple [(I 7), v40])]))) (
 .op (.mksl 1) [(S [104,116,109,108])] fun v41 =>
 .call 49 [(.agg [(g c0 0), (g c0 1), (g c0 2), (g c0 3)]), v41] fun v42 =>
 .cnd v42 (
 .op .nonnil [v900] fun v43 =>
 .op (.faddr 7) [v43] fun v44 =>
 .load none v44 fun v45 =>
 .op (.int .eql) [v45, (I 0)] fun v46 =>
 .cnd v46 (
 .ret .ret [(.tuple [(I 3), tt])]) (
 .ret .ret [(.tuple [(I 6), tt])])) (
 .op (.int .eql) [v902, (I 0)] fun v47 =>
 .ret .ret [(.tuple [(I 7), v47])]))))) (
 .op (.mksl 1) [(S [116,101,109,112,108,97,116,101])] fun v48 =>
 .call 49 [(.agg [(g c0 0), (g c0 1), (g c0 2), (g c0 3)]), v48] fun v49 =>
 .cnd v49 (
 .op .nonnil [v900] fun v50 =>
 .op (.faddr 6) [v50] fun v51 =>
 .load none v51 fun v52 =>
 .op (.len false) [v52] fun v53 =>
 .op (.int .gtr) [v53, (I 0)] fun v54 =>
 .cnd v54 (
 .op .nonnil [v900] fun v55 =>
 .op (.faddr 6) [v55] fun v56 =>
 .load none v56 fun v57 =>
 .op (.int .sub) [v53, (I 1)] fun v58 =>
 .op (.eaddr 1) [v57, v58] fun v59 =>
 .load none v59 fun v60 =>
 .ret .ret [(.tuple [v60, tt])]) (
 .ret .ret [(.tuple [(I 7), tt])])) (
 .op (.mksl 1) [(S [104,101,97,100])] fun v61 =>
 .call 49 [(.agg [(g c0 0), (g c0 1), (g c0 2), (g c0 3)]), v61] fun v62 =>
 .cnd v62 (
 .op (.int .gtr) [v902, (I 0)] fun v63 =>
 .cnd v63 (
 .ret .ret [(.tuple [(I 4), tt])]) (
 .op (.mksl 1) [(S [104,116,109,108])] fun v64 =>
 .call 49 [(.agg [(g c0 0), (g c0 1), (g c0 2), (g c0 3)]), v64] fun v65 =>
 .cnd v65 (
 .op .nonnil [v900] fun v66 =>
 .op (.faddr 7) [v66] fun v67 =>
 .load none v67 fun v68 =>
 .op (.int .eql) [v68, (I 0)] fun v69 =>
 .cnd v69 (
 .ret .ret [(.tuple [(I 3), tt])]) (
 .ret .ret [(.tuple [(I 6), tt])])) (
 .op (.int .eql) [v902, (I 0)] fun v70 =>
 .ret .ret [(.tuple [(I 7), v70])]))) (
 .op (.mksl 1) [(S [104,116,109,108])] fun v71 =>
 .call 49 [(.agg [(g c0 0), (g c0 1), (g c0 2), (g c0 3)]), v71] fun v72 =>
 .cnd v72 (
 .op .nonnil [v900] fun v73 =>
 .op (.faddr 7) [v73] fun v74 =>
 .load none v74 fun v75 =>
 .op (.int .eql) [v75, (I 0)] fun v76 =>
 .cnd v76 (
 .ret .ret [(.tuple [(I 3), tt])]) (
 .ret .ret [(.tuple [(I 6), tt])])) (
 .op (.int .eql) [v902, (I 0)] fun v77 =>
 .ret .ret [(.tuple [(I 7), v77])])))))
 else
 .fail
 | .ret =>
 .ret .ret [(.tuple [(g c11 0), (g c11 1)])])
theorem t113_eq (v900 v901 v902 : AVal) : afun cx 113 [v900, v901, v902] = t113 v900 v901 v902 := by kernel_rfl
def t114 (v900 v901 v902 v903 : AVal) : IT :=
 .cells 12 v902 fun c0 =>
 .call 27 [v900, (I 0)] fun v1 =>
 .op (.ext 0) [v1] fun v2 =>
 .op (.ext 1) [v1] fun v3 =>
 .callv v901 [(.agg [(g c0 0), (g c0 1), (g c0 2), (g c0 3), (g c0 4), (g c0 5), (g c0 6), (g c0 7), (g c0 8), (g c0 9), (g c0 10), (g c0 11)]), v903, v2] fun v4 =>
 .cells 4 v4 fun c5 =>
 .op (.int .neq) [(g c5 0), (I 0)] fun v6 =>
 .cnd v6 (
 .call 46 [v900, (g c5 0), v2, v3] fun v7 =>
 .op .nonnil [v900] fun v8 =>
 .op (.faddr 2) [v8] fun v9 =>
 .call 47 [v9, (.agg [(g c5 0), (g c5 1), (g c5 2), (g c5 3)])] fun v10 =>
 .ret .ret [(g c5 0)]) (
 .ret .ret [(g c5 0)])
theorem t114_eq (v900 v901 v902 v903 : AVal) : afun cx 114 [v900, v901, v902, v903] = t114 v900 v901 v902 v903 := by kernel_rfl
def t115 (v900 : AVal) : IT :=
 .op (.nileq false .sl) [v900, .slnil] fun v0 =>
 .cnd v0 (
 .ret .ret [.slnil]) (
 .op (.mksl 1) [] fun v1 =>
 .appendM 1 8 v1 v900 fun v2 =>
 .ret .ret [v2])
theorem t115_eq (v900 : AVal) : afun cx 115 [v900] = t115 v900 := by kernel_rfl
def t116 (v900 : AVal) : IT :=
 .op (.len false) [v900] fun v0 =>
 .loop 3 [.slnil, ff, .slnil, (I 0)] (fun c1 =>
 .op (.int .lss) [(g c1 3), v0] fun v2 =>
 .cnd v2 (
 .op (.eaddr 3) [v900, (g c1 3)] fun v3 =>
 .load (some 3) v3 fun v4 =>
 .cells 3 v4 fun c5 =>
 .op (.mksl 1) [(g c5 0)] fun v6 =>
 .call 164 [v6] fun v7 =>
 .op (.un .not) [v7] fun v8 =>
 .cnd v8 (
 .ret .ret [.slnil, ff, (g c1 2), (g c1 3)]) (
 .call 59 [(g c1 2), (.func (.func 176) [] [(.rptr [(g c5 0), (g c5 1), (g c5 2)])])] fun v9 =>
 .op (.un .not) [v9] fun v10 =>
 .cnd v10 (
 .load (some 3) (.rptr [(g c5 0), (g c5 1), (g c5 2)]) fun v11 =>
 .op (.mksl 3) [v11] fun v12 =>
 .op (.append 3 40) [(g c1 2), v12] fun v13 =>
 .op (.int .add) [(g c1 3), (I 1)] fun v14 =>
 .ret .normal [(g c1 0), (g c1 1), v13, v14]) (
 .op (.int .add) [(g c1 3), (I 1)] fun v15 =>
 .ret .normal [(g c1 0), (g c1 1), (g c1 2), v15]))) (
 .ret (.exit 0) [(g c1 0), (g c1 1), (g c1 2), (g c1 3)])) (
 fun x c16 => match x with
 | .normal =>
 .fail
 | .exit i =>
 if i = 0 then
 .ret .ret [(.tuple [(g c16 2), tt])]
 else
 .fail
 | .ret =>
 .ret .ret [(.tuple [(g c16 0), (g c16 1)])])
theorem t116_eq (v900 : AVal) : afun cx 116 [v900] = t116 v900 := by kernel_rfl
def t117 (v900 v901 : AVal) : IT :=
 .cells 1 v901 fun c0 =>
 .call 177 [v900, (.func (.func 178) [] [(.rptr [(g c0 0)])])] fun v1 =>
 .ret .ret [v1]
theorem t117_eq (v900 v901 : AVal) : afun cx 117 [v900, v901] = t117 v900 v901 := by kernel_rfl
def t118 (v900 v901 : AVal) : IT :=
 .call 84 [v900, v901] fun v0 =>
 .op (.un .not) [v0] fun v1 =>
 .cnd v1 (
 .ret .ret [(I 0)]) (
 .call 43 [v900, v901] fun v2 =>
 .op .nonnil [v2] fun v3 =>
 .op (.faddr 0) [v3] fun v4 =>
 .op (.faddr 1) [v4] fun v5 =>
 .load none v5 fun v6 =>
 .ret .ret [v6])
theorem t118_eq (v900 v901 : AVal) : afun cx 118 [v900, v901] = t118 v900 v901 := by kernel_rfl
def t119 (v900 v901 v902 : AVal) : IT :=
 .cells 1 v902 fun c0 =>
 .call 179 [v900, v901, (.func (.func 180) [] [(.rptr [(g c0 0)])])] fun v1 =>
 .ret .ret [v1]
theorem t119_eq (v900 v901 v902 : AVal) : afun cx 119 [v900, v901, v902] = t119 v900 v901 v902 := by kernel_rfl
def t120 (v900 v901 : AVal) : IT :=
 .cells 1 v901 fun c0 =>
 .call 128 [v900, (.func (.func 181) [] [(.rptr [(g c0 0)])]), (.func (.func 129) [] [])] fun v1 =>
 .ret .ret [v1]
theorem t120_eq (v900 v901 : AVal) : afun cx 120 [v900, v901] = t120 v900 v901 := by kernel_rfl
def t121 (v900 v901 : AVal) : IT :=
 .cells 1 v901 fun c0 =>
 .call 177 [v900, (.func (.func 183) [] [(.rptr [(g c0 0)])])] fun v1 =>
 .ret .ret [v1]
theorem t121_eq (v900 v901 : AVal) : afun cx 121 [v900, v901] = t121 v900 v901 := by kernel_rfl
def t122 (v900 : AVal) : IT :=
 .op (.nileq false .sl) [v900, .slnil] fun v0 =>
 .cnd v0 (
 .ret .ret [.slnil]) (
 .op (.mksl 3) [] fun v1 =>
 .objOf 3 48 v1 v900 fun v2 =>
 .ret .ret [v2])
theorem t122_eq (v900 : AVal) : afun cx 122 [v900] = t122 v900 := by kernel_rfl
def t123 (v900 : AVal) : IT :=
 .cells 3 v900 fun c0 =>
 .op (.mkagg [(I 0), (S []), ff, (S []), ff, (S []), ff, ff, .slnil, ff, (S []), (.int .i32 0)] [(0, 1), (1, 1), (8, 1)]) [(I 2), (g c0 1), (g c0 2)] fun v1 =>
 .cells 12 v1 fun c2 =>
 .ret .ret [(.agg [(g c2 0), (g c2 1), (g c2 2), (g c2 3), (g c2 4), (g c2 5), (g c2 6), (g c2 7), (g c2 8), (g c2 9), (g c2 10), (g c2 11)])]
theorem t123_eq (v900 : AVal) : afun cx 123 [v900] = t123 v900 := by kernel_rfl
def t124 (v900 v901 : AVal) : IT :=
 .cells 1 v901 fun c0 =>
 .call 121 [v900, (g c0 0)] fun v1 =>
 .op (.int .lss) [v1, (I 0)] fun v2 =>
 .cnd v2 (
 .ret .ret [(I 0)]) (
 .call 128 [v900, (.func (.func 129) [] []), (.func (.func 184) [] [(.rptr [(g c0 0)])])] fun v3 =>
 .ret .ret [v3])
theorem t124_eq (v900 v901 : AVal) : afun cx 124 [v900, v901] = t124 v900 v901 := by kernel_rfl
def t125 (v900 : AVal) : IT :=
 .call 128 [v900, (.func (.func 185) [] []), (.func (.func 129) [] [])] fun v0 =>
 .ret .ret [v0]
theorem t125_eq (v900 : AVal) : afun cx 125 [v900] = t125 v900 := by kernel_rfl
def t126 (v900 v901 v902 : AVal) : IT :=
 .cells 3 v901 fun c0 =>
 .op (.slc 3 false false true) [v900, v902] fun v1 =>
 .op (.append 3 48) [.slnil, v1] fun v2 =>
 .op (.mksl 3) [(.agg [(g c0 0), (g c0 1), (g c0 2)])] fun v3 =>
 .op (.append 3 48) [v2, v3] fun v4 =>
 .op (.slc 3 false true false) [v900, v902] fun v5 =>
 .op (.append 3 48) [v4, v5] fun v6 =>
 .ret .ret [v6]
theorem t126_eq (v900 v901 v902 : AVal) : afun cx 126 [v900, v901, v902] = t126 v900 v901 v902 := by kernel_rfl
def t127 (v900 : AVal) : IT :=
 .op .nonnil [v900] fun v0 =>
 .op (.faddr 0) [v0] fun v1 =>
 .load none v1 fun v2 =>
 .op (.len false) [v2] fun v3 =>
 .loop 2 [v3] (fun c4 =>
 .op (.int .gtr) [(g c4 0), (I 0)] fun v5 =>
 .cnd v5 (
 .op .nonnil [v900] fun v6 =>
 .op (.faddr 0) [v6] fun v7 =>
 .load none v7 fun v8 =>
 .op (.int .sub) [(g c4 0), (I 1)] fun v9 =>
 .op (.eaddr 3) [v8, v9] fun v10 =>
 .op (.faddr 0) [v10] fun v11 =>
 .load none v11 fun v12 =>
 .op (.int .neq) [v12, (I 0)] fun v13 =>
 .cnd v13 (
 .op (.int .sub) [(g c4 0), (I 1)] fun v14 =>
 .ret .normal [v14]) (
 .ret (.exit 0) [(g c4 0)])) (
 .ret (.exit 0) [(g c4 0)])) (
 fun x c15 => match x with
 | .normal =>
 .fail
 | .exit i =>
 if i = 0 then
 .ret .ret [(g c15 0)]
 else
 .fail
 | .ret =>
 .ret .ret [(I 0)])
theorem t127_eq (v900 : AVal) : afun cx 127 [v900] = t127 v900 := by kernel_rfl
def t128 (v900 v901 v902 : AVal) : IT :=
 .loop 2 [(I 0)] (fun c0 =>
 .call 62 [v900] fun v1 =>
 .op (.int .gtr) [v1, (I 1)] fun v2 =>
 .cnd v2 (
 .call 64 [v900] fun v3 =>
 .callv v901 [v3] fun v4 =>
 .op (.un .not) [v4] fun v5 =>
 .cnd v5 (
 .op (.int .add) [(g c0 0), (I 1)] fun v6 =>
 .call 74 [v900] fun v7 =>
 .callv v902 [v7] fun v8 =>
 .cnd v8 (
 .ret (.exit 0) [v6]) (
 .ret .normal [v6])) (
 .ret (.exit 0) [(g c0 0)])) (
 .ret (.exit 0) [(g c0 0)])) (
 fun x c9 => match x with
 | .normal =>
 .fail
 | .exit i =>
 if i = 0 then
 .ret .ret [(g c9 0)]
 else
 .fail
 | .ret =>
 .ret .ret [(I 0)])
theorem t128_eq (v900 v901 v902 : AVal) : afun cx 128 [v900, v901, v902] = t128 v900 v901 v902 := by kernel_rfl
def t129 (v900 : AVal) : IT :=
 .cells 4 v900 fun c0 =>
 .ret .ret [ff]
theorem t129_eq (v900 : AVal) : afun cx 129 [v900] = t129 v900 := by kernel_rfl
def t130 (v900 v901 : AVal) : IT :=
 .cells 4 v900 fun c0 =>
 .load none v901 fun v1 =>
 .call 131 [(.agg [(g c0 0), (g c0 1), (g c0 2), (g c0 3)]), v1] fun v2 =>
 .ret .ret [v2]
theorem t130_eq (v900 v901 : AVal) : afun cx 130 [v900, v901] = t130 v900 v901 := by kernel_rfl
def t131 (v900 v901 : AVal) : IT :=
 .cells 4 v900 fun c0 =>
 .op (.int .eql) [(g c0 1), (I 1)] fun v1 =>
 .cnd v1 (
 .call 111 [v901, (g c0 2)] fun v2 =>
 .ret .ret [v2]) (
 .ret .ret [ff])
theorem t131_eq (v900 v901 : AVal) : afun cx 131 [v900, v901] = t131 v900 v901 := by kernel_rfl
def t132 (v900 v901 : AVal) : IT :=
 .cells 3 v900 fun c0 =>
 .cells 3 v901 fun c1 =>
 .op (.str .eql) [(g c0 1), (g c1 1)] fun v2 =>
 .cnd v2 (
 .op (.len false) [(g c0 2)] fun v3 =>
 .op (.len false) [(g c1 2)] fun v4 =>
 .op (.int .eql) [v3, v4] fun v5 =>
 .cnd v5 (
 .callv (.func (.func 187) [] []) [(g c0 2), (g c1 2)] fun v6 =>
 .cnd v6 (
 .callv (.func (.func 187) [] []) [(g c1 2), (g c0 2)] fun v7 =>
 .ret .ret [v7]) (
 .ret .ret [ff])) (
 .ret .ret [ff])) (
 .ret .ret [ff])
theorem t132_eq (v900 v901 : AVal) : afun cx 132 [v900, v901] = t132 v900 v901 := by kernel_rfl
def t133 (v900 v901 : AVal) : IT :=
 .op (.slc 3 false false true) [v900, v901] fun v0 =>
 .op (.append 3 48) [.slnil, v0] fun v1 =>
 .op (.int .add) [v901, (I 1)] fun v2 =>
 .op (.slc 3 false true false) [v900, v2] fun v3 =>
 .op (.append 3 48) [v1, v3] fun v4 =>
 .ret .ret [v4]
theorem t133_eq (v900 v901 : AVal) : afun cx 133 [v900, v901] = t133 v900 v901 := by kernel_rfl
def t134 (v900 : AVal) : IT :=
 .cells 3 v900 fun c0 =>
 .call 53 [(g c0 2)] fun v1 =>
 .cells 1 v1 fun c2 =>
 .cells 3 (.agg [(g c0 0), (g c0 1), (g c2 0)]) fun c3 =>
 .ret .ret [(.agg [(g c3 0), (g c3 1), (g c3 2)])]
theorem t134_eq (v900 : AVal) : afun cx 134 [v900] = t134 v900 := by kernel_rfl
def t135 (v900 v901 : AVal) : IT :=
 .op (.conv .u32) [v901] fun v0 =>
 .op (.int .leq) [v0, (.int .u32 2047)] fun v1 =>
 .cnd v1 (
 .op (.int .shr) [v901, (.int .u64 6)] fun v2 =>
 .op (.conv .u8) [v2] fun v3 =>
 .op (.int .or) [(.int .u8 192), v3] fun v4 =>
 .op (.conv .u8) [v901] fun v5 =>
 .op (.int .and) [v5, (.int .u8 63)] fun v6 =>
 .op (.int .or) [(.int .u8 128), v6] fun v7 =>
 .op (.mksl 1) [v4, v7] fun v8 =>
 .grow 1 1 v900 v8 fun v9 =>
 .ret .ret [v9]) (
 .op (.int .lss) [v0, (.int .u32 55296)] fun v10 =>
 .cnd v10 (
 .op (.int .shr) [v901, (.int .u64 12)] fun v11 =>
 .op (.conv .u8) [v11] fun v12 =>
 .op (.int .or) [(.int .u8 224), v12] fun v13 =>
 .op (.int .shr) [v901, (.int .u64 6)] fun v14 =>
 .op (.conv .u8) [v14] fun v15 =>
 .op (.int .and) [v15, (.int .u8 63)] fun v16 =>
 .op (.int .or) [(.int .u8 128), v16] fun v17 =>
 .op (.conv .u8) [v901] fun v18 =>
 .op (.int .and) [v18, (.int .u8 63)] fun v19 =>
 .op (.int .or) [(.int .u8 128), v19] fun v20 =>
 .op (.mksl 1) [v13, v17, v20] fun v21 =>
 .grow 1 1 v900 v21 fun v22 =>
 .ret .ret [v22]) (
 .op (.int .lss) [(.int .u32 57343), v0] fun v23 =>
 .cnd v23 (
 .op (.int .leq) [v0, (.int .u32 65535)] fun v24 =>
 .cnd v24 (
 .op (.int .shr) [v901, (.int .u64 12)] fun v25 =>
 .op (.conv .u8) [v25] fun v26 =>
 .op (.int .or) [(.int .u8 224), v26] fun v27 =>
 .op (.int .shr) [v901, (.int .u64 6)] fun v28 =>
 .op (.conv .u8) [v28] fun v29 =>
 .op (.int .and) [v29, (.int .u8 63)] fun v30 =>
 .op (.int .or) [(.int .u8 128), v30] fun v31 =>
 .op (.conv .u8) [v901] fun v32 =>
 .op (.int .and) [v32, (.int .u8 63)] fun v33 =>
 .op (.int .or) [(.int .u8 128), v33] fun v34 =>
 .op (.mksl 1) [v27, v31, v34] fun v35 =>
 .grow 1 1 v900 v35 fun v36 =>
 .ret .ret [v36]) (
 .op (.int .gtr) [v0, (.int .u32 65535)] fun v37 =>
 .cnd v37 (
 .op (.int .leq) [v0, (.int .u32 1114111)] fun v38 =>
 .cnd v38 (
 .op (.int .shr) [v901, (.int .u64 18)] fun v39 =>
 .op (.conv .u8) [v39] fun v40 =>
 .op (.int .or) [(.int .u8 240), v40] fun v41 =>
 .op (.int .shr) [v901, (.int .u64 12)] fun v42 =>
 .op (.conv .u8) [v42] fun v43 =>
 .op (.int .and) [v43, (.int .u8 63)] fun v44 =>
 .op (.int .or) [(.int .u8 128), v44] fun v45 =>
 .op (.int .shr) [v901, (.int .u64 6)] fun v46 =>
 .op (.conv .u8) [v46] fun v47 =>
 .op (.int .and) [v47, (.int .u8 63)] fun v48 =>
 .op (.int .or) [(.int .u8 128), v48] fun v49 =>
 .op (.conv .u8) [v901] fun v50 =>
 .op (.int .and) [v50, (.int .u8 63)] fun v51 =>
 .op (.int .or) [(.int .u8 128), v51] fun v52 =>
 .op (.mksl 1) [v41, v45, v49, v52] fun v53 =>
 .grow 1 1 v900 v53 fun v54 =>
 .ret .ret [v54]) (
 .op (.mksl 1) [(.int .u8 239), (.int .u8 191), (.int .u8 189)] fun v55 =>
 .grow 1 1 v900 v55 fun v56 =>
 .ret .ret [v56])) (
 .op (.mksl 1) [(.int .u8 239), (.int .u8 191), (.int .u8 189)] fun v57 =>
 .grow 1 1 v900 v57 fun v58 =>
 .ret .ret [v58]))) (
 .op (.int .gtr) [v0, (.int .u32 65535)] fun v59 =>
 .cnd v59 (
 .op (.int .leq) [v0, (.int .u32 1114111)] fun v60 =>
 .cnd v60 (
 .op (.int .shr) [v901, (.int .u64 18)] fun v61 =>
 .op (.conv .u8) [v61] fun v62 =>
 .op (.int .or) [(.int .u8 240), v62] fun v63 =>
 .op (.int .shr) [v901, (.int .u64 12)] fun v64 =>
 .op (.conv .u8) [v64] fun v65 =>
 .op (.int .and) [v65, (.int .u8 63)] fun v66 =>
 .op (.int .or) [(.int .u8 128), v66] fun v67 =>
 .op (.int .shr) [v901, (.int .u64 6)] fun v68 =>
 .op (.conv .u8) [v68] fun v69 =>
 .op (.int .and) [v69, (.int .u8 63)] fun v70 =>
 .op (.int .or) [(.int .u8 128), v70] fun v71 =>
 .op (.conv .u8) [v901] fun v72 =>
 .op (.int .and) [v72, (.int .u8 63)] fun v73 =>
 .op (.int .or) [(.int .u8 128), v73] fun v74 =>
 .op (.mksl 1) [v63, v67, v71, v74] fun v75 =>
 .grow 1 1 v900 v75 fun v76 =>
 .ret .ret [v76]) (
 .op (.mksl 1) [(.int .u8 239), (.int .u8 191), (.int .u8 189)] fun v77 =>
 .grow 1 1 v900 v77 fun v78 =>
 .ret .ret [v78])) (
 .op (.mksl 1) [(.int .u8 239), (.int .u8 191), (.int .u8 189)] fun v79 =>
 .grow 1 1 v900 v79 fun v80 =>
 .ret .ret [v80]))))
theorem t135_eq (v900 v901 : AVal) : afun cx 135 [v900, v901] = t135 v900 v901 := by kernel_rfl
def t136 (v900 v901 : AVal) : IT :=
 .op (.peq false) [v900, (.ptr none)] fun v0 =>
 .cnd v0 (
 .ret .ret [(I (-1))]) (
 .op .nonnil [v900] fun v1 =>
 .op (.faddr 0) [v1] fun v2 =>
 .load none v2 fun v3 =>
 .op (.len false) [v3] fun v4 =>
 .op (.int .sub) [v4, (I 1)] fun v5 =>
 .loop 4 [(I 0), v5] (fun c6 =>
 .op (.int .geq) [(g c6 1), (I 0)] fun v7 =>
 .cnd v7 (
 .op .nonnil [v900] fun v8 =>
 .op (.faddr 0) [v8] fun v9 =>
 .load none v9 fun v10 =>
 .op (.eaddr 3) [v10, (g c6 1)] fun v11 =>
 .op (.faddr 0) [v11] fun v12 =>
 .load none v12 fun v13 =>
 .op (.int .neq) [v13, (I 0)] fun v14 =>
 .cnd v14 (
 .op .nonnil [v900] fun v15 =>
 .op (.faddr 0) [v15] fun v16 =>
 .load none v16 fun v17 =>
 .op (.eaddr 3) [v17, (g c6 1)] fun v18 =>
 .op (.faddr 1) [v18] fun v19 =>
 .load none v19 fun v20 =>
 .op (.str .eql) [v20, v901] fun v21 =>
 .cnd v21 (
 .ret .ret [(g c6 1), (g c6 1)]) (
 .op (.int .sub) [(g c6 1), (I 1)] fun v22 =>
 .ret .normal [(g c6 0), v22])) (
 .ret (.exit 0) [(g c6 0), (g c6 1)])) (
 .ret (.exit 0) [(g c6 0), (g c6 1)])) (
 fun x c23 => match x with
 | .normal =>
 .fail
 | .exit i =>
 if i = 0 then
 .ret .ret [(I (-1))]
 else
 .fail
 | .ret =>
 .ret .ret [(g c23 0)]))
theorem t136_eq (v900 v901 : AVal) : afun cx 136 [v900, v901] = t136 v900 v901 := by kernel_rfl
def t137 (v900 v901 v902 : AVal) : IT :=
 .op .nonnil [v901] fun v0 =>
 .op (.faddr 3) [v0] fun v1 =>
 .op (.faddr 0) [v1] fun v2 =>
 .load none v2 fun v3 =>
 .call 122 [v3] fun v4 =>
 .op (.int .add) [v902, (I 1)] fun v5 =>
 .call 190 [v4, v902, v5] fun v6 =>
 .op .nonnil [v901] fun v7 =>
 .op (.faddr 3) [v7] fun v8 =>
 .op (.faddr 0) [v8] fun v9 =>
 .store 1 v9 v6 (
 .op .nonnil [v900] fun v10 =>
 .op (.faddr 3) [v10] fun v11 =>
 .load none v11 fun v12 =>
 .op (.int .lss) [v902, v12] fun v13 =>
 .cnd v13 (
 .op .nonnil [v900] fun v14 =>
 .op (.faddr 3) [v14] fun v15 =>
 .load none v15 fun v16 =>
 .op (.int .sub) [v16, (I 1)] fun v17 =>
 .op .nonnil [v900] fun v18 =>
 .op (.faddr 3) [v18] fun v19 =>
 .store 1 v19 v17 (
 .op .nonnil [v900] fun v20 =>
 .op (.faddr 4) [v20] fun v21 =>
 .load none v21 fun v22 =>
 .op (.int .lss) [v902, v22] fun v23 =>
 .cnd v23 (
 .op .nonnil [v900] fun v24 =>
 .op (.faddr 4) [v24] fun v25 =>
 .load none v25 fun v26 =>
 .op (.int .sub) [v26, (I 1)] fun v27 =>
 .op .nonnil [v900] fun v28 =>
 .op (.faddr 4) [v28] fun v29 =>
 .store 1 v29 v27 (
 .frzAt 3 v901 (
 .ret .ret [(.tuple [])]))) (
 .frzAt 3 v901 (
 .ret .ret [(.tuple [])])))) (
 .op .nonnil [v900] fun v30 =>
 .op (.faddr 4) [v30] fun v31 =>
 .load none v31 fun v32 =>
 .op (.int .lss) [v902, v32] fun v33 =>
 .cnd v33 (
 .op .nonnil [v900] fun v34 =>
 .op (.faddr 4) [v34] fun v35 =>
 .load none v35 fun v36 =>
 .op (.int .sub) [v36, (I 1)] fun v37 =>
 .op .nonnil [v900] fun v38 =>
 .op (.faddr 4) [v38] fun v39 =>
 .store 1 v39 v37 (
 .frzAt 3 v901 (
 .ret .ret [(.tuple [])]))) (
 .frzAt 3 v901 (
 .ret .ret [(.tuple [])]))))
theorem t137_eq (v900 v901 v902 : AVal) : afun cx 137 [v900, v901, v902] = t137 v900 v901 v902 := by kernel_rfl
def t138 (v900 v901 v902 : AVal) : IT :=
 .cells 1 v902 fun c0 =>
 .call 179 [v900, v901, (.func (.func 191) [] [(.rptr [(g c0 0)])])] fun v1 =>
 .ret .ret [v1]
theorem t138_eq (v900 v901 v902 : AVal) : afun cx 138 [v900, v901, v902] = t138 v900 v901 v902 := by kernel_rfl
def t139 (v900 v901 : AVal) : IT :=
 .call 121 [v900, v901] fun v0 =>
 .op (.int .add) [v0, (I 1)] fun v1 =>
 .loop 3 [(I 0), v1] (fun c2 =>
 .op (.int .geq) [v0, (I 0)] fun v3 =>
 .cnd v3 (
 .call 62 [v900] fun v4 =>
 .op (.int .lss) [(g c2 1), v4] fun v5 =>
 .cnd v5 (
 .op .nonnil [v900] fun v6 =>
 .op (.faddr 0) [v6] fun v7 =>
 .load none v7 fun v8 =>
 .op (.eaddr 4) [v8, (g c2 1)] fun v9 =>
 .op (.faddr 1) [v9] fun v10 =>
 .load none v10 fun v11 =>
 .op .nonnil [v900] fun v12 =>
 .op (.faddr 0) [v12] fun v13 =>
 .load none v13 fun v14 =>
 .op (.eaddr 4) [v14, (g c2 1)] fun v15 =>
 .op (.faddr 2) [v15] fun v16 =>
 .load none v16 fun v17 =>
 .pcall 107 [v11, v17] fun v18 =>
 .cnd v18 (
 .ret .ret [(g c2 1), (g c2 1)]) (
 .op (.int .add) [(g c2 1), (I 1)] fun v19 =>
 .ret .normal [(g c2 0), v19])) (
 .ret (.exit 0) [(g c2 0), (g c2 1)])) (
 .ret (.exit 0) [(g c2 0), (g c2 1)])) (
 fun x c20 => match x with
 | .normal =>
 .fail
 | .exit i =>
 if i = 0 then
 .ret .ret [(I (-1))]
 else
 .fail
 | .ret =>
 .ret .ret [(g c20 0)])
theorem t139_eq (v900 v901 : AVal) : afun cx 139 [v900, v901] = t139 v900 v901 := by kernel_rfl
def t140 (v900 v901 v902 v903 : AVal) : IT :=
 .op (.int .sub) [v903, (I 1)] fun v0 =>
 .loop 2 [(I 0), v0] (fun c1 =>
 .op (.int .gtr) [(g c1 1), v902] fun v2 =>
 .cnd v2 (
 .op .nonnil [v900] fun v3 =>
 .op (.faddr 2) [v3] fun v4 =>
 .call 112 [v4, (g c1 1)] fun v5 =>
 .cells 4 v5 fun c6 =>
 .op (.int .add) [(g c1 0), (I 1)] fun v7 =>
 .op .nonnil [v900] fun v8 =>
 .op (.faddr 3) [v8] fun v9 =>
 .call 82 [v9, (g c6 0)] fun v10 =>
 .op (.int .gtr) [v7, (I 3)] fun v11 =>
 .cnd v11 (
 .op (.int .geq) [v10, (I 0)] fun v12 =>
 .cnd v12 (
 .call 137 [v901, v900, v10] fun v13 =>
 .op .nonnil [v900] fun v14 =>
 .op (.faddr 3) [v14] fun v15 =>
 .call 82 [v15, (g c6 0)] fun v16 =>
 .op (.int .lss) [v16, (I 0)] fun v17 =>
 .cnd v17 (
 .op .nonnil [v900] fun v18 =>
 .op (.faddr 2) [v18] fun v19 =>
 .call 142 [v19, (g c6 0)] fun v20 =>
 .op (.int .sub) [(g c1 1), (I 1)] fun v21 =>
 .ret .normal [v7, v21]) (
 .op .nonnil [v900] fun v22 =>
 .op (.faddr 3) [v22] fun v23 =>
 .op (.faddr 0) [v23] fun v24 =>
 .load none v24 fun v25 =>
 .op (.eaddr 3) [v25, v16] fun v26 =>
 .load (some 3) v26 fun v27 =>
 .cells 3 v27 fun c28 =>
 .op .nonnil [v901] fun v29 =>
 .op (.faddr 5) [v29] fun v30 =>
 .op (.faddr 0) [v30] fun v31 =>
 .load none v31 fun v32 =>
 .call 123 [(.agg [(g c28 0), (g c28 1), (g c28 2)])] fun v33 =>
 .load none v31 fun v34 =>
 .same v32 v34 (
 .call 45 [v900, v33, (I 1), v32] fun v35 =>
 .cells 4 v35 fun c36 =>
 .op .nonnil [v900] fun v37 =>
 .op (.faddr 2) [v37] fun v38 =>
 .call 192 [v38, (g c6 0), (.agg [(g c36 0), (g c36 1), (g c36 2), (g c36 3)])] fun v39 =>
 .op .nonnil [v900] fun v40 =>
 .op (.faddr 3) [v40] fun v41 =>
 .op (.mkagg [(I 0), (S []), .slnil] [(0, 1), (1, 1), (2, 1)]) [(g c36 0), (g c28 1), (g c28 2)] fun v42 =>
 .call 193 [v41, (g c6 0), v42] fun v43 =>
 .op .nonnil [v901] fun v44 =>
 .op (.faddr 13) [v44] fun v45 =>
 .load none v45 fun v46 =>
 .op .nonnil [v901] fun v47 =>
 .op (.faddr 9) [v47] fun v48 =>
 .op (.faddr 0) [v48] fun v49 =>
 .load none v49 fun v50 =>
 .op (.int .eql) [v46, v50] fun v51 =>
 .cnd v51 (
 .op (.int .add) [v16, (I 1)] fun v52 =>
 .op .nonnil [v901] fun v53 =>
 .op (.faddr 4) [v53] fun v54 =>
 .store 1 v54 v52 (
 .op .nonnil [v901] fun v55 =>
 .op (.faddr 13) [v55] fun v56 =>
 .load none v56 fun v57 =>
 .call 46 [v900, v57, (g c36 0), (I 0)] fun v58 =>
 .op .nonnil [v901] fun v59 =>
 .op (.faddr 13) [v59] fun v60 =>
 .store 1 v60 (g c36 0) (
 .op (.int .sub) [(g c1 1), (I 1)] fun v61 =>
 .ret .normal [v7, v61]))) (
 .op .nonnil [v901] fun v62 =>
 .op (.faddr 13) [v62] fun v63 =>
 .load none v63 fun v64 =>
 .call 46 [v900, v64, (g c36 0), (I 0)] fun v65 =>
 .op .nonnil [v901] fun v66 =>
 .op (.faddr 13) [v66] fun v67 =>
 .store 1 v67 (g c36 0) (
 .op (.int .sub) [(g c1 1), (I 1)] fun v68 =>
 .ret .normal [v7, v68]))))) (
 .op (.int .lss) [v10, (I 0)] fun v69 =>
 .cnd v69 (
 .op .nonnil [v900] fun v70 =>
 .op (.faddr 2) [v70] fun v71 =>
 .call 142 [v71, (g c6 0)] fun v72 =>
 .op (.int .sub) [(g c1 1), (I 1)] fun v73 =>
 .ret .normal [v7, v73]) (
 .op .nonnil [v900] fun v74 =>
 .op (.faddr 3) [v74] fun v75 =>
 .op (.faddr 0) [v75] fun v76 =>
 .load none v76 fun v77 =>
 .op (.eaddr 3) [v77, v10] fun v78 =>
 .load (some 3) v78 fun v79 =>
 .cells 3 v79 fun c80 =>
 .op .nonnil [v901] fun v81 =>
 .op (.faddr 5) [v81] fun v82 =>
 .op (.faddr 0) [v82] fun v83 =>
 .load none v83 fun v84 =>
 .call 123 [(.agg [(g c80 0), (g c80 1), (g c80 2)])] fun v85 =>
 .load none v83 fun v86 =>
 .same v84 v86 (
 .call 45 [v900, v85, (I 1), v84] fun v87 =>
 .cells 4 v87 fun c88 =>
 .op .nonnil [v900] fun v89 =>
 .op (.faddr 2) [v89] fun v90 =>
 .call 192 [v90, (g c6 0), (.agg [(g c88 0), (g c88 1), (g c88 2), (g c88 3)])] fun v91 =>
 .op .nonnil [v900] fun v92 =>
 .op (.faddr 3) [v92] fun v93 =>
 .op (.mkagg [(I 0), (S []), .slnil] [(0, 1), (1, 1), (2, 1)]) [(g c88 0), (g c80 1), (g c80 2)] fun v94 =>
 .call 193 [v93, (g c6 0), v94] fun v95 =>
 .op .nonnil [v901] fun v96 =>
 .op (.faddr 13) [v96] fun v97 =>
 .load none v97 fun v98 =>
 .op .nonnil [v901] fun v99 =>
 .op (.faddr 9) [v99] fun v100 =>
 .op (.faddr 0) [v100] fun v101 =>
 .load none v101 fun v102 =>
 .op (.int .eql) [v98, v102] fun v103 =>
 .cnd v103 (
 .op (.int .add) [v10, (I 1)] fun v104 =>
 .op .nonnil [v901] fun v105 =>
 .op (.faddr 4) [v105] fun v106 =>
 .store 1 v106 v104 (
 .op .nonnil [v901] fun v107 =>
 .op (.faddr 13) [v107] fun v108 =>
 .load none v108 fun v109 =>
 .call 46 [v900, v109, (g c88 0), (I 0)] fun v110 =>
 .op .nonnil [v901] fun v111 =>
 .op (.faddr 13) [v111] fun v112 =>
 .store 1 v112 (g c88 0) (
 .op (.int .sub) [(g c1 1), (I 1)] fun v113 =>
 .ret .normal [v7, v113]))) (
 .op .nonnil [v901] fun v114 =>
 .op (.faddr 13) [v114] fun v115 =>
 .load none v115 fun v116 =>
 .call 46 [v900, v116, (g c88 0), (I 0)] fun v117 =>
 .op .nonnil [v901] fun v118 =>
 .op (.faddr 13) [v118] fun v119 =>
 .store 1 v119 (g c88 0) (
 .op (.int .sub) [(g c1 1), (I 1)] fun v120 =>
 .ret .normal [v7, v120])))))) (
 .op (.int .lss) [v10, (I 0)] fun v121 =>
 .cnd v121 (
 .op .nonnil [v900] fun v122 =>
 .op (.faddr 2) [v122] fun v123 =>
 .call 142 [v123, (g c6 0)] fun v124 =>
 .op (.int .sub) [(g c1 1), (I 1)] fun v125 =>
 .ret .normal [v7, v125]) (
 .op .nonnil [v900] fun v126 =>
 .op (.faddr 3) [v126] fun v127 =>
 .op (.faddr 0) [v127] fun v128 =>
 .load none v128 fun v129 =>
 .op (.eaddr 3) [v129, v10] fun v130 =>
 .load (some 3) v130 fun v131 =>
 .cells 3 v131 fun c132 =>
 .op .nonnil [v901] fun v133 =>
 .op (.faddr 5) [v133] fun v134 =>
 .op (.faddr 0) [v134] fun v135 =>
 .load none v135 fun v136 =>
 .call 123 [(.agg [(g c132 0), (g c132 1), (g c132 2)])] fun v137 =>
 .load none v135 fun v138 =>
 .same v136 v138 (
 .call 45 [v900, v137, (I 1), v136] fun v139 =>
 .cells 4 v139 fun c140 =>
 .op .nonnil [v900] fun v141 =>
 .op (.faddr 2) [v141] fun v142 =>
 .call 192 [v142, (g c6 0), (.agg [(g c140 0), (g c140 1), (g c140 2), (g c140 3)])] fun v143 =>
 .op .nonnil [v900] fun v144 =>
 .op (.faddr 3) [v144] fun v145 =>
 .op (.mkagg [(I 0), (S []), .slnil] [(0, 1), (1, 1), (2, 1)]) [(g c140 0), (g c132 1), (g c132 2)] fun v146 =>
 .call 193 [v145, (g c6 0), v146] fun v147 =>
 .op .nonnil [v901] fun v148 =>
 .op (.faddr 13) [v148] fun v149 =>
 .load none v149 fun v150 =>
 .op .nonnil [v901] fun v151 =>
 .op (.faddr 9) [v151] fun v152 =>
 .op (.faddr 0) [v152] fun v153 =>
 .load none v153 fun v154 =>
 .op (.int .eql) [v150, v154] fun v155 =>
 .cnd v155 (
 .op (.int .add) [v10, (I 1)] fun v156 =>
 .op .nonnil [v901] fun v157 =>
 .op (.faddr 4) [v157] fun v158 =>
 .store 1 v158 v156 (
 .op .nonnil [v901] fun v159 =>
 .op (.faddr 13) [v159] fun v160 =>
 .load none v160 fun v161 =>
 .call 46 [v900, v161, (g c140 0), (I 0)] fun v162 =>
 .op .nonnil [v901] fun v163 =>
 .op (.faddr 13) [v163] fun v164 =>
 .store 1 v164 (g c140 0) (
 .op (.int .sub) [(g c1 1), (I 1)] fun v165 =>
 .ret .normal [v7, v165]))) (
 .op .nonnil [v901] fun v166 =>
 .op (.faddr 13) [v166] fun v167 =>
 .load none v167 fun v168 =>
 .call 46 [v900, v168, (g c140 0), (I 0)] fun v169 =>
 .op .nonnil [v901] fun v170 =>
 .op (.faddr 13) [v170] fun v171 =>
 .store 1 v171 (g c140 0) (
 .op (.int .sub) [(g c1 1), (I 1)] fun v172 =>
 .ret .normal [v7, v172])))))) (
 .ret (.exit 0) [(g c1 0), (g c1 1)])) (
 fun x c173 => match x with
 | .normal =>
 .fail
 | .exit i =>
 if i = 0 then
 .ret .ret [(.tuple [])]
 else
 .fail
 | .ret =>
 .ret .ret [(.tuple [])])
theorem t140_eq (v900 v901 v902 v903 : AVal) : afun cx 140 [v900, v901, v902, v903] = t140 v900 v901 v902 v903 := by kernel_rfl
def t141 (v900 v901 v902 : AVal) : IT :=
 .cells 3 v901 fun c0 =>
 .op (.peq true) [v900, (.ptr none)] fun v1 =>
 .cnd v1 (
 .op .nonnil [v900] fun v2 =>
 .op (.faddr 0) [v2] fun v3 =>
 .load none v3 fun v4 =>
 .op (.minmax true) [v902, (I 0)] fun v5 =>
 .op .nonnil [v900] fun v6 =>
 .op (.faddr 0) [v6] fun v7 =>
 .load none v7 fun v8 =>
 .op (.len false) [v8] fun v9 =>
 .op (.minmax false) [v5, v9] fun v10 =>
 .call 134 [(.agg [(g c0 0), (g c0 1), (g c0 2)])] fun v11 =>
 .load none v7 fun v12 =>
 .same v8 v12 (
 .load none v3 fun v13 =>
 .same v4 v13 (
 .call 126 [v4, v11, v10] fun v14 =>
 .op .nonnil [v900] fun v15 =>
 .op (.faddr 0) [v15] fun v16 =>
 .store 1 v16 v14 (
 .ret .ret [(.tuple [])])))) (
 .ret .ret [(.tuple [])])
theorem t141_eq (v900 v901 v902 : AVal) : afun cx 141 [v900, v901, v902] = t141 v900 v901 v902 := by kernel_rfl
def t142 (v900 v901 : AVal) : IT :=
 .call 121 [v900, v901] fun v0 =>
 .op (.int .lss) [v0, (I 1)] fun v1 =>
 .cnd v1 (
 .ret .ret [ff]) (
 .op .nonnil [v900] fun v2 =>
 .op (.faddr 0) [v2] fun v3 =>
 .load none v3 fun v4 =>
 .call 194 [v4, v0] fun v5 =>
 .op .nonnil [v900] fun v6 =>
 .op (.faddr 0) [v6] fun v7 =>
 .store 1 v7 v5 (
 .ret .ret [tt]))
theorem t142_eq (v900 v901 : AVal) : afun cx 142 [v900, v901] = t142 v900 v901 := by kernel_rfl
def t143 (v900 v901 v902 : AVal) : IT :=
 .cells 4 v901 fun c0 =>
 .op (.peq true) [v900, (.ptr none)] fun v1 =>
 .cnd v1 (
 .op .nonnil [v900] fun v2 =>
 .op (.faddr 0) [v2] fun v3 =>
 .load none v3 fun v4 =>
 .op (.minmax true) [v902, (I 1)] fun v5 =>
 .op .nonnil [v900] fun v6 =>
 .op (.faddr 0) [v6] fun v7 =>
 .load none v7 fun v8 =>
 .op (.len false) [v8] fun v9 =>
 .op (.minmax false) [v5, v9] fun v10 =>
 .call 106 [v4, (.agg [(g c0 0), (g c0 1), (g c0 2), (g c0 3)]), v10] fun v11 =>
 .op .nonnil [v900] fun v12 =>
 .op (.faddr 0) [v12] fun v13 =>
 .store 1 v13 v11 (
 .ret .ret [(.tuple [])])) (
 .ret .ret [(.tuple [])])
theorem t143_eq (v900 v901 v902 : AVal) : afun cx 143 [v900, v901, v902] = t143 v900 v901 v902 := by kernel_rfl
def t148 (v900 : AVal) : IT :=
 .op (.int .geq) [v900, (I 0)] fun v0 =>
 .cnd v0 (
 .op (.int .leq) [v900, (I 7)] fun v1 =>
 .ret .ret [v1]) (
 .ret .ret [ff])
theorem t148_eq (v900 : AVal) : afun cx 148 [v900] = t148 v900 := by kernel_rfl
def t149 (v900 : AVal) : IT :=
 .loop 2 [ff, (I 0)] (fun c0 =>
 .op (.len false) [v900] fun v1 =>
 .op (.int .lss) [(g c0 1), v1] fun v2 =>
 .cnd v2 (
 .op (.eaddr 3) [v900, (g c0 1)] fun v3 =>
 .op (.faddr 0) [v3] fun v4 =>
 .load none v4 fun v5 =>
 .pcall 148 [v5] fun v6 =>
 .op (.un .not) [v6] fun v7 =>
 .cnd v7 (
 .ret .ret [ff, (g c0 1)]) (
 .op (.int .add) [(g c0 1), (I 1)] fun v8 =>
 .ret .normal [(g c0 0), v8])) (
 .ret (.exit 0) [(g c0 0), (g c0 1)])) (
 fun x c9 => match x with
 | .normal =>
 .fail
 | .exit i =>
 if i = 0 then
 .ret .ret [tt]
 else
 .fail
 | .ret =>
 .ret .ret [(g c9 0)])
theorem t149_eq (v900 : AVal) : afun cx 149 [v900] = t149 v900 := by kernel_rfl
def t150 (v900 : AVal) : IT :=
 .loop 3 [.slnil, (I 0)] (fun c0 =>
 .op (.len false) [v900] fun v1 =>
 .op (.int .lss) [(g c0 1), v1] fun v2 =>
 .cnd v2 (
 .loop 7 [ff, (I 0)] (fun c3 =>
 .op (.len false) [(g c0 0)] fun v4 =>
 .op (.int .lss) [(g c3 1), v4] fun v5 =>
 .cnd v5 (
 .op (.eaddr 3) [(g c0 0), (g c3 1)] fun v6 =>
 .op (.faddr 0) [v6] fun v7 =>
 .load none v7 fun v8 =>
 .op (.eaddr 3) [v900, (g c0 1)] fun v9 =>
 .op (.faddr 0) [v9] fun v10 =>
 .load none v10 fun v11 =>
 .op (.int .eql) [v8, v11] fun v12 =>
 .cnd v12 (
 .op (.eaddr 3) [(g c0 0), (g c3 1)] fun v13 =>
 .op (.faddr 1) [v13] fun v14 =>
 .load none v14 fun v15 =>
 .op (.eaddr 3) [v900, (g c0 1)] fun v16 =>
 .op (.faddr 1) [v16] fun v17 =>
 .load none v17 fun v18 =>
 .op (.str .eql) [v15, v18] fun v19 =>
 .cnd v19 (
 .op (.int .add) [(g c3 1), (I 1)] fun v20 =>
 .ret .normal [tt, v20]) (
 .op (.int .add) [(g c3 1), (I 1)] fun v21 =>
 .ret .normal [(g c3 0), v21])) (
 .op (.int .add) [(g c3 1), (I 1)] fun v22 =>
 .ret .normal [(g c3 0), v22])) (
 .ret (.exit 2) [(g c3 0), (g c3 1)])) (
 fun x c23 => match x with
 | .normal =>
 .fail
 | .exit i =>
 if i = 2 then
 .op (.un .not) [(g c23 0)] fun v24 =>
 .cnd v24 (
 .op (.eaddr 3) [v900, (g c0 1)] fun v25 =>
 .load (some 3) v25 fun v26 =>
 .op (.mksl 3) [v26] fun v27 =>
 .op (.append 3 40) [(g c0 0), v27] fun v28 =>
 .op (.int .add) [(g c0 1), (I 1)] fun v29 =>
 .ret .normal [v28, v29]) (
 .op (.int .add) [(g c0 1), (I 1)] fun v30 =>
 .ret .normal [(g c0 0), v30])
 else
 if i = 1 then
 .op (.int .add) [(g c0 1), (I 1)] fun v31 =>
 .ret .normal [(g c0 0), v31]
 else
 .ret (.exit i) [(g c0 0), (g c0 1)]
 | .ret =>
 .ret .ret [(g c0 0), (g c0 1)])) (
 .ret (.exit 0) [(g c0 0), (g c0 1)])) (
 fun x c32 => match x with
 | .normal =>
 .fail
 | .exit i =>
 if i = 0 then
 .ret .ret [(g c32 0)]
 else
 .fail
 | .ret =>
 .ret .ret [.slnil])
theorem t150_eq (v900 : AVal) : afun cx 150 [v900] = t150 v900 := by kernel_rfl
def t151 (v900 : AVal) : IT :=
 .cells 13 v900 fun c0 =>
 .op (.int .eql) [(g c0 0), (I 4)] fun v1 =>
 .cnd v1 (
 .op (.int .eql) [(g c0 4), (I 1)] fun v2 =>
 .cnd v2 (
 .op (.str .eql) [(g c0 5), (S [116,101,109,112,108,97,116,101])] fun v3 =>
 .ret .ret [v3]) (
 .ret .ret [ff])) (
 .ret .ret [ff])
theorem t151_eq (v900 : AVal) : afun cx 151 [v900] = t151 v900 := by kernel_rfl
def t152 (v900 v901 : AVal) : IT :=
 .op .nonnil [v900] fun v0 =>
 .op (.faddr 1) [v0] fun v1 =>
 .load none v1 fun v2 =>
 .op (.eaddr 1) [v2, v901] fun v3 =>
 .load none v3 fun v4 =>
 .op (.int .eql) [v4, (I 0)] fun v5 =>
 .cnd v5 (
 .call 37 [v900, ff] fun v6 =>
 .op .nonnil [v900] fun v7 =>
 .op (.faddr 1) [v7] fun v8 =>
 .load none v8 fun v9 =>
 .op (.eaddr 1) [v9, v901] fun v10 =>
 .store 1 v10 v6 (
 .op .nonnil [v900] fun v11 =>
 .op (.faddr 1) [v11] fun v12 =>
 .load none v12 fun v13 =>
 .op (.eaddr 1) [v13, v6] fun v14 =>
 .store 1 v14 v6 (
 .op .nonnil [v900] fun v15 =>
 .op (.faddr 1) [v15] fun v16 =>
 .load none v16 fun v17 =>
 .op (.eaddr 1) [v17, v901] fun v18 =>
 .load none v18 fun v19 =>
 .ret .ret [v19]))) (
 .op .nonnil [v900] fun v20 =>
 .op (.faddr 1) [v20] fun v21 =>
 .load none v21 fun v22 =>
 .op (.eaddr 1) [v22, v901] fun v23 =>
 .load none v23 fun v24 =>
 .ret .ret [v24])
theorem t152_eq (v900 v901 : AVal) : afun cx 152 [v900, v901] = t152 v900 v901 := by kernel_rfl
def t153 (v900 v901 : AVal) : IT :=
 .op .nonnil [v900] fun v0 =>
 .op (.faddr 0) [v0] fun v1 =>
 .load none v1 fun v2 =>
 .call 159 [v2, v901] fun v3 =>
 .op (.un .not) [v3] fun v4 =>
 .cnd v4 (
 .ret .ret [(I 0)]) (
 .op .nonnil [v900] fun v5 =>
 .op (.faddr 0) [v5] fun v6 =>
 .load none v6 fun v7 =>
 .op .nonnil [v7] fun v8 =>
 .op (.faddr 0) [v8] fun v9 =>
 .load none v9 fun v10 =>
 .op (.eaddr 13) [v10, v901] fun v11 =>
 .op (.faddr 0) [v11] fun v12 =>
 .load none v12 fun v13 =>
 .ret .ret [v13])
theorem t153_eq (v900 v901 : AVal) : afun cx 153 [v900, v901] = t153 v900 v901 := by kernel_rfl
def t154 (v900 v901 : AVal) : IT :=
 .call 159 [v900, v901] fun v0 =>
 .op (.un .not) [v0] fun v1 =>
 .cnd v1 (
 .ret .ret [.slnil]) (
 .op .nonnil [v900] fun v2 =>
 .op (.faddr 0) [v2] fun v3 =>
 .load none v3 fun v4 =>
 .op (.eaddr 13) [v4, v901] fun v5 =>
 .op (.faddr 2) [v5] fun v6 =>
 .load none v6 fun v7 =>
 .op (.append 1 8) [.slnil, v7] fun v8 =>
 .ret .ret [v8])
theorem t154_eq (v900 v901 : AVal) : afun cx 154 [v900, v901] = t154 v900 v901 := by kernel_rfl
def t155 (v900 v901 v902 v903 : AVal) : IT :=
 .call 202 [v900, v901, v902, v903] fun v0 =>
 .op (.int .neq) [v0, (I 0)] fun v1 =>
 .cnd v1 (
 .ret .ret [v0]) (
 .call 203 [v900, v902] fun v2 =>
 .loop 7 [.slnil, (I 0)] (fun c3 =>
 .op .nonnil [v900] fun v4 =>
 .op (.faddr 0) [v4] fun v5 =>
 .load none v5 fun v6 =>
 .op (.eaddr 13) [v6, v901] fun v7 =>
 .op (.faddr 2) [v7] fun v8 =>
 .load none v8 fun v9 =>
 .op (.len false) [v9] fun v10 =>
 .op (.int .lss) [(g c3 1), v10] fun v11 =>
 .cnd v11 (
 .op .nonnil [v900] fun v12 =>
 .op (.faddr 0) [v12] fun v13 =>
 .load none v13 fun v14 =>
 .op (.eaddr 13) [v14, v901] fun v15 =>
 .op (.faddr 2) [v15] fun v16 =>
 .load none v16 fun v17 =>
 .op (.eaddr 1) [v17, (g c3 1)] fun v18 =>
 .load none v18 fun v19 =>
 .op (.int .eql) [v19, v903] fun v20 =>
 .cnd v20 (
 .op (.mksl 1) [v902] fun v21 =>
 .op (.append 1 8) [(g c3 0), v21] fun v22 =>
 .op .nonnil [v900] fun v23 =>
 .op (.faddr 0) [v23] fun v24 =>
 .load none v24 fun v25 =>
 .op (.eaddr 13) [v25, v901] fun v26 =>
 .op (.faddr 2) [v26] fun v27 =>
 .load none v27 fun v28 =>
 .op (.eaddr 1) [v28, (g c3 1)] fun v29 =>
 .load none v29 fun v30 =>
 .op (.mksl 1) [v30] fun v31 =>
 .op (.append 1 8) [v22, v31] fun v32 =>
 .op (.int .add) [(g c3 1), (I 1)] fun v33 =>
 .ret .normal [v32, v33]) (
 .op .nonnil [v900] fun v34 =>
 .op (.faddr 0) [v34] fun v35 =>
 .load none v35 fun v36 =>
 .op (.eaddr 13) [v36, v901] fun v37 =>
 .op (.faddr 2) [v37] fun v38 =>
 .load none v38 fun v39 =>
 .op (.eaddr 1) [v39, (g c3 1)] fun v40 =>
 .load none v40 fun v41 =>
 .op (.mksl 1) [v41] fun v42 =>
 .op (.append 1 8) [(g c3 0), v42] fun v43 =>
 .op (.int .add) [(g c3 1), (I 1)] fun v44 =>
 .ret .normal [v43, v44])) (
 .ret (.exit 0) [(g c3 0), (g c3 1)])) (
 fun x c45 => match x with
 | .normal =>
 .fail
 | .exit i =>
 if i = 0 then
 .op (.int .eql) [v903, (I 0)] fun v46 =>
 .cnd v46 (
 .op (.mksl 1) [v902] fun v47 =>
 .op (.append 1 8) [(g c45 0), v47] fun v48 =>
 .op .nonnil [v900] fun v49 =>
 .op (.faddr 0) [v49] fun v50 =>
 .load none v50 fun v51 =>
 .op (.eaddr 13) [v51, v901] fun v52 =>
 .op (.faddr 2) [v52] fun v53 =>
 .store 1 v53 v48 (
 .op .nonnil [v900] fun v54 =>
 .op (.faddr 0) [v54] fun v55 =>
 .load none v55 fun v56 =>
 .op (.eaddr 13) [v56, v902] fun v57 =>
 .op (.faddr 1) [v57] fun v58 =>
 .store 1 v58 v901 (
 .ret .ret [(I 0)]))) (
 .op .nonnil [v900] fun v59 =>
 .op (.faddr 0) [v59] fun v60 =>
 .load none v60 fun v61 =>
 .op (.eaddr 13) [v61, v901] fun v62 =>
 .op (.faddr 2) [v62] fun v63 =>
 .store 1 v63 (g c45 0) (
 .op .nonnil [v900] fun v64 =>
 .op (.faddr 0) [v64] fun v65 =>
 .load none v65 fun v66 =>
 .op (.eaddr 13) [v66, v902] fun v67 =>
 .op (.faddr 1) [v67] fun v68 =>
 .store 1 v68 v901 (
 .ret .ret [(I 0)])))
 else
 .fail
 | .ret =>
 .ret .ret [(I 0)]))
theorem t155_eq (v900 v901 v902 v903 : AVal) : afun cx 155 [v900, v901, v902, v903] = t155 v900 v901 v902 v903 := by kernel_rfl
def t156 (v900 v901 : AVal) : IT :=
 .op (.str .eql) [v901, (S [])] fun v0 =>
 .cnd v0 (
 .ret .ret [ff]) (
 .pcall 204 [v901, (.int .u8 32)] fun v1 =>
 .cnd v1 (
 .ret .ret [ff]) (
 .loop 5 [ff, (I 0), (I 0)] (fun c2 =>
 .op (.len true) [v900] fun v3 =>
 .op (.int .leq) [(g c2 2), v3] fun v4 =>
 .cnd v4 (
 .op (.len true) [v900] fun v5 =>
 .op (.int .eql) [(g c2 2), v5] fun v6 =>
 .cnd v6 (
 .op (.slc 0 true true true) [v900, (g c2 1), (g c2 2)] fun v7 =>
 .op (.str .eql) [v7, v901] fun v8 =>
 .cnd v8 (
 .ret .ret [tt, (g c2 1), (g c2 2)]) (
 .op (.int .add) [(g c2 2), (I 1)] fun v9 =>
 .op (.int .add) [(g c2 2), (I 1)] fun v10 =>
 .ret .normal [(g c2 0), v9, v10])) (
 .op .sidx [v900, (g c2 2)] fun v11 =>
 .op (.int .eql) [v11, (.int .u8 32)] fun v12 =>
 .cnd v12 (
 .op (.slc 0 true true true) [v900, (g c2 1), (g c2 2)] fun v13 =>
 .op (.str .eql) [v13, v901] fun v14 =>
 .cnd v14 (
 .ret .ret [tt, (g c2 1), (g c2 2)]) (
 .op (.int .add) [(g c2 2), (I 1)] fun v15 =>
 .op (.int .add) [(g c2 2), (I 1)] fun v16 =>
 .ret .normal [(g c2 0), v15, v16])) (
 .op (.int .add) [(g c2 2), (I 1)] fun v17 =>
 .ret .normal [(g c2 0), (g c2 1), v17]))) (
 .ret (.exit 0) [(g c2 0), (g c2 1), (g c2 2)])) (
 fun x c18 => match x with
 | .normal =>
 .fail
 | .exit i =>
 if i = 0 then
 .ret .ret [ff]
 else
 .fail
 | .ret =>
 .ret .ret [(g c18 0)])))
theorem t156_eq (v900 v901 : AVal) : afun cx 156 [v900, v901] = t156 v900 v901 := by kernel_rfl
def t157 (v900 : AVal) : IT :=
 .loop 3 [.slnil, (I 0)] (fun c0 =>
 .op (.len true) [v900] fun v1 =>
 .op (.int .lss) [(g c0 1), v1] fun v2 =>
 .cnd v2 (
 .op .sidx [v900, (g c0 1)] fun v3 =>
 .pcall 205 [v3] fun v4 =>
 .cnd v4 (
 .op (.int .add) [v3, (.int .u8 32)] fun v5 =>
 .op (.mksl 1) [v5] fun v6 =>
 .op (.append 1 1) [(g c0 0), v6] fun v7 =>
 .op (.int .add) [(g c0 1), (I 1)] fun v8 =>
 .ret .normal [v7, v8]) (
 .op (.mksl 1) [v3] fun v9 =>
 .op (.append 1 1) [(g c0 0), v9] fun v10 =>
 .op (.int .add) [(g c0 1), (I 1)] fun v11 =>
 .ret .normal [v10, v11])) (
 .ret (.exit 0) [(g c0 0), (g c0 1)])) (
 fun x c12 => match x with
 | .normal =>
 .fail
 | .exit i =>
 if i = 0 then
 .frz (g c12 0) fun v13 =>
 .op .b2s [v13] fun v14 =>
 .ret .ret [v14]
 else
 .fail
 | .ret =>
 .ret .ret [(S [])])
theorem t157_eq (v900 : AVal) : afun cx 157 [v900] = t157 v900 := by kernel_rfl
def t158 (v900 v901 v902 v903 : AVal) : IT :=
 .cells 4 v901 fun c0 =>
 .op (.int .eql) [(g c0 1), (I 1)] fun v1 =>
 .cnd v1 (
 .op (.str .eql) [(g c0 2), (S [115,101,108,101,99,116])] fun v2 =>
 .cnd v2 (
 .call 206 [v900, v902] fun v3 =>
 .ret .ret [(.tuple [v3, tt])]) (
 .op (.str .eql) [(g c0 2), (S [116,100])] fun v4 =>
 .cnd v4 (
 .op (.un .not) [v903] fun v5 =>
 .cnd v5 (
 .ret .ret [(.tuple [(I 15), tt])]) (
 .ret .ret [(.tuple [(I 7), v903])])) (
 .op (.str .eql) [(g c0 2), (S [116,104])] fun v6 =>
 .cnd v6 (
 .op (.un .not) [v903] fun v7 =>
 .cnd v7 (
 .ret .ret [(.tuple [(I 15), tt])]) (
 .ret .ret [(.tuple [(I 7), v903])])) (
 .op (.str .eql) [(g c0 2), (S [116,114])] fun v8 =>
 .cnd v8 (
 .ret .ret [(.tuple [(I 14), tt])]) (
 .op (.str .eql) [(g c0 2), (S [116,98,111,100,121])] fun v9 =>
 .cnd v9 (
 .ret .ret [(.tuple [(I 13), tt])]) (
 .op (.str .eql) [(g c0 2), (S [116,104,101,97,100])] fun v10 =>
 .cnd v10 (
 .ret .ret [(.tuple [(I 13), tt])]) (
 .op (.str .eql) [(g c0 2), (S [116,102,111,111,116])] fun v11 =>
 .cnd v11 (
 .ret .ret [(.tuple [(I 13), tt])]) (
 .op (.str .eql) [(g c0 2), (S [99,97,112,116,105,111,110])] fun v12 =>
 .cnd v12 (
 .ret .ret [(.tuple [(I 11), tt])]) (
 .op (.str .eql) [(g c0 2), (S [99,111,108,103,114,111,117,112])] fun v13 =>
 .cnd v13 (
 .ret .ret [(.tuple [(I 12), tt])]) (
 .op (.str .eql) [(g c0 2), (S [116,97,98,108,101])] fun v14 =>
 .cnd v14 (
 .ret .ret [(.tuple [(I 9), tt])]) (
 .op (.str .eql) [(g c0 2), (S [116,101,109,112,108,97,116,101])] fun v15 =>
 .cnd v15 (
 .op .nonnil [v900] fun v16 =>
 .op (.faddr 6) [v16] fun v17 =>
 .load none v17 fun v18 =>
 .op (.len false) [v18] fun v19 =>
 .op (.int .gtr) [v19, (I 0)] fun v20 =>
 .cnd v20 (
 .op .nonnil [v900] fun v21 =>
 .op (.faddr 6) [v21] fun v22 =>
 .load none v22 fun v23 =>
 .op .nonnil [v900] fun v24 =>
 .op (.faddr 6) [v24] fun v25 =>
 .load none v25 fun v26 =>
 .op (.len false) [v26] fun v27 =>
 .op (.int .sub) [v27, (I 1)] fun v28 =>
 .op (.eaddr 1) [v23, v28] fun v29 =>
 .load none v29 fun v30 =>
 .ret .ret [(.tuple [v30, tt])]) (
 .ret .ret [(.tuple [(I 7), tt])])) (
 .op (.str .eql) [(g c0 2), (S [104,101,97,100])] fun v31 =>
 .cnd v31 (
 .op (.un .not) [v903] fun v32 =>
 .cnd v32 (
 .ret .ret [(.tuple [(I 4), tt])]) (
 .ret .ret [(.tuple [(I 7), v903])])) (
 .op (.str .eql) [(g c0 2), (S [98,111,100,121])] fun v33 =>
 .cnd v33 (
 .ret .ret [(.tuple [(I 7), tt])]) (
 .op (.str .eql) [(g c0 2), (S [102,114,97,109,101,115,101,116])] fun v34 =>
 .cnd v34 (
 .ret .ret [(.tuple [(I 20), tt])]) (
 .op (.str .eql) [(g c0 2), (S [104,116,109,108])] fun v35 =>
 .cnd v35 (
 .op .nonnil [v900] fun v36 =>
 .op (.faddr 7) [v36] fun v37 =>
 .load none v37 fun v38 =>
 .op (.int .eql) [v38, (I 0)] fun v39 =>
 .cnd v39 (
 .ret .ret [(.tuple [(I 3), tt])]) (
 .ret .ret [(.tuple [(I 6), tt])])) (
 .ret .ret [(.tuple [(I 7), v903])])))))))))))))))) (
 .ret .ret [(.tuple [(I 7), v903])])
theorem t158_eq (v900 v901 v902 v903 : AVal) : afun cx 158 [v900, v901, v902, v903] = t158 v900 v901 v902 v903 := by kernel_rfl
def t159 (v900 v901 : AVal) : IT :=
 .op (.int .gtr) [v901, (I 0)] fun v0 =>
 .cnd v0 (
 .op .nonnil [v900] fun v1 =>
 .op (.faddr 0) [v1] fun v2 =>
 .load none v2 fun v3 =>
 .op (.len false) [v3] fun v4 =>
 .op (.int .lss) [v901, v4] fun v5 =>
 .ret .ret [v5]) (
 .ret .ret [ff])
theorem t159_eq (v900 v901 : AVal) : afun cx 159 [v900, v901] = t159 v900 v901 := by kernel_rfl
def t160 (v900 v901 : AVal) : IT :=
 .cells 13 v900 fun c0 =>
 .cells 13 v901 fun c1 =>
 .call 207 [(.agg [(g c0 0), (g c0 1), (g c0 2), (g c0 3), (g c0 4), (g c0 5), (g c0 6), (g c0 7), (g c0 8), (g c0 9), (g c0 10), (g c0 11), (g c0 12)]), (.agg [(g c1 0), (g c1 1), (g c1 2), (g c1 3), (g c1 4), (g c1 5), (g c1 6), (g c1 7), (g c1 8), (g c1 9), (g c1 10), (g c1 11), (g c1 12)])] fun v2 =>
 .cnd v2 (
 .call 35 [(g c0 2), (g c1 2)] fun v3 =>
 .cnd v3 (
 .op (.int .eql) [(g c0 1), (g c1 1)] fun v4 =>
 .cnd v4 (
 .op (.int .eql) [(g c0 3), (g c1 3)] fun v5 =>
 .cnd v5 (
 .op (.int .eql) [(g c0 11), (g c1 11)] fun v6 =>
 .cnd v6 (
 .op (.int .eql) [(g c0 12), (g c1 12)] fun v7 =>
 .ret .ret [v7]) (
 .ret .ret [ff])) (
 .ret .ret [ff])) (
 .ret .ret [ff])) (
 .ret .ret [ff])) (
 .ret .ret [ff])
theorem t160_eq (v900 v901 : AVal) : afun cx 160 [v900, v901] = t160 v900 v901 := by kernel_rfl
def t161 (v900 : AVal) : IT :=
 .cells 13 v900 fun c0 =>
 .op (.append 1 8) [.slnil, (g c0 2)] fun v1 =>
 .cells 1 v1 fun c2 =>
 .op (.append 3 40) [.slnil, (g c0 6)] fun v3 =>
 .cells 1 v3 fun c4 =>
 .cells 13 (.agg [(g c0 0), (g c0 1), (g c2 0), (g c0 3), (g c0 4), (g c0 5), (g c4 0), (g c0 7), (g c0 8), (g c0 9), (g c0 10), (g c0 11), (g c0 12)]) fun c5 =>
 .ret .ret [(.agg [(g c5 0), (g c5 1), (g c5 2), (g c5 3), (g c5 4), (g c5 5), (g c5 6), (g c5 7), (g c5 8), (g c5 9), (g c5 10), (g c5 11), (g c5 12)])]
theorem t161_eq (v900 : AVal) : afun cx 161 [v900] = t161 v900 := by kernel_rfl
def t162 (v900 : AVal) : IT :=
 .pcall 163 [v900, (S [97,116,116,114,105,98,117,116,101,78,97,109,101,32,97,116,116,114,105,98,117,116,101,84,121,112,101,32,98,97,115,101,70,114,101,113,117,101,110,99,121,32,98,97,115,101,80,114,111,102,105,108,101,32,99,97,108,99,77,111,100,101,32,99,108,105,112,80,97,116,104,85,110,105,116,115,32,100,105,102,102,117,115,101,67,111,110,115,116,97,110,116,32,101,100,103,101,77,111,100,101,32,102,105,108,116,101,114,85,110,105,116,115,32,103,108,121,112,104,82,101,102,32,103,114,97,100,105,101,110,116,84,114,97,110,115,102,111,114,109,32,103,114,97,100,105,101,110,116,85,110,105,116,115,32,107,101,114,110,101,108,77,97,116,114,105,120,32,107,101,114,110,101,108,85,110,105,116,76,101,110,103,116,104,32,107,101,121,80,111,105,110,116,115,32,107,101,121,83,112,108,105,110,101,115,32,107,101,121,84,105,109,101,115,32,108,101,110,103,116,104,65,100,106,117,115,116,32,108,105,109,105,116,105,110,103,67,111,110,101,65,110,103,108,101,32,109,97,114,107,101,114,72,101,105,103,104,116,32,109,97,114,107,101,114,85,110,105,116,115,32,109,97,114,107,101,114,87,105,100,116,104,32,109,97,115,107,67,111,110,116,101,110,116,85,110,105,116,115,32,109,97,115,107,85,110,105,116,115,32,110,117,109,79,99,116,97,118,101,115,32,112,97,116,104,76,101,110,103,116,104,32,112,97,116,116,101,114,110,67,111,110,116,101,110,116,85,110,105,116,115,32,112,97,116,116,101,114,110,84,114,97,110,115,102,111,114,109,32,112,97,116,116,101,114,110,85,110,105,116,115,32,112,111,105,110,116,115,65,116,88,32,112,111,105,110,116,115,65,116,89,32,112,111,105,110,116,115,65,116,90,32,112,114,101,115,101,114,118,101,65,108,112,104,97,32,112,114,101,115,101,114,118,101,65,115,112,101,99,116,82,97,116,105,111,32,112,114,105,109,105,116,105,118,101,85,110,105,116,115,32,114,101,102,88,32,114,101,102,89,32,114,101,112,101,97,116,67,111,117,110,116,32,114,101,112,101,97,116,68,117,114,32,114,101,113,117,105,114,101,100,69,120,116,101,110,115,105,111,110,115,32,114,101,113,117,105,114,101,100,70,101,97,116,117,114,101,115,32,115,112,101,99,117,108,97,114,67,111,110,115,116,97,110,116,32,115,112,101,99,117,108,97,114,69,120,112,111,110,101,110,116,32,115,112,114,101,97,100,77,101,116,104,111,100,32,115,116,97,114,116,79,102,102,115,101,116,32,115,116,100,68,101,118,105,97,116,105,111,110,32,115,116,105,116,99,104,84,105,108,101,115,32,115,117,114,102,97,99,101,83,99,97,108,101,32,115,121,115,116,101,109,76,97,110,103,117,97,103,101,32,116,97,98,108,101,86,97,108,117,101,115,32,116,97,114,103,101,116,88,32,116,97,114,103,101,116,89,32,116,101,120,116,76,101,110,103,116,104,32,118,105,101,119,66,111,120,32,118,105,101,119,84,97,114,103,101,116,32,120,67,104,97,110,110,101,108,83,101,108,101,99,116,111,114,32,121,67,104,97,110,110,101,108,83,101,108,101,99,116,111,114,32,122,111,111,109,65,110,100,80,97,110])] fun v0 =>
 .ret .ret [v0]
theorem t162_eq (v900 : AVal) : afun cx 162 [v900] = t162 v900 := by kernel_rfl
def t163 (v900 v901 : AVal) : IT :=
 .call 208 [v901] fun v0 =>
 .op (.len false) [v0] fun v1 =>
 .loop 2 [(S []), (I 0)] (fun c2 =>
 .op (.int .lss) [(g c2 1), v1] fun v3 =>
 .cnd v3 (
 .op (.eaddr 1) [v0, (g c2 1)] fun v4 =>
 .load none v4 fun v5 =>
 .pcall 172 [v5] fun v6 =>
 .op (.str .eql) [v6, v900] fun v7 =>
 .cnd v7 (
 .ret .ret [v5, (g c2 1)]) (
 .op (.int .add) [(g c2 1), (I 1)] fun v8 =>
 .ret .normal [(g c2 0), v8])) (
 .ret (.exit 0) [(g c2 0), (g c2 1)])) (
 fun x c9 => match x with
 | .normal =>
 .fail
 | .exit i =>
 if i = 0 then
 .ret .ret [v900]
 else
 .fail
 | .ret =>
 .ret .ret [(g c9 0)])
theorem t163_eq (v900 v901 : AVal) : afun cx 163 [v900, v901] = t163 v900 v901 := by kernel_rfl
def t164 (v900 : AVal) : IT :=
 .op (.len false) [v900] fun v0 =>
 .loop 2 [ff, (I 0)] (fun c1 =>
 .op (.int .lss) [(g c1 1), v0] fun v2 =>
 .cnd v2 (
 .op (.eaddr 1) [v900, (g c1 1)] fun v3 =>
 .load none v3 fun v4 =>
 .op (.int .lss) [v4, (I 0)] fun v5 =>
 .cnd v5 (
 .ret .ret [ff, (g c1 1)]) (
 .op (.int .gtr) [v4, (I 7)] fun v6 =>
 .cnd v6 (
 .ret .ret [ff, (g c1 1)]) (
 .op (.int .add) [(g c1 1), (I 1)] fun v7 =>
 .ret .normal [(g c1 0), v7]))) (
 .ret (.exit 0) [(g c1 0), (g c1 1)])) (
 fun x c8 => match x with
 | .normal =>
 .fail
 | .exit i =>
 if i = 0 then
 .ret .ret [tt]
 else
 .fail
 | .ret =>
 .ret .ret [(g c8 0)])
theorem t164_eq (v900 : AVal) : afun cx 164 [v900] = t164 v900 := by kernel_rfl
def t165 (v900 : AVal) : IT :=
 .op .nonnil [v900] fun v0 =>
 .op (.faddr 0) [v0] fun v1 =>
 .op (.faddr 0) [v1] fun v2 =>
 .load none v2 fun v3 =>
 .op (.int .eql) [v3, (I 4)] fun v4 =>
 .cnd v4 (
 .op .nonnil [v900] fun v5 =>
 .op (.faddr 0) [v5] fun v6 =>
 .op (.faddr 4) [v6] fun v7 =>
 .load none v7 fun v8 =>
 .op (.int .eql) [v8, (I 1)] fun v9 =>
 .cnd v9 (
 .op .nonnil [v900] fun v10 =>
 .op (.faddr 0) [v10] fun v11 =>
 .op (.faddr 5) [v11] fun v12 =>
 .load none v12 fun v13 =>
 .op (.str .eql) [v13, (S [116,101,109,112,108,97,116,101])] fun v14 =>
 .ret .ret [v14]) (
 .ret .ret [ff])) (
 .ret .ret [ff])
theorem t165_eq (v900 : AVal) : afun cx 165 [v900] = t165 v900 := by kernel_rfl
def t166 (v900 v901 : AVal) : IT :=
 .op .nonnil [v900] fun v0 =>
 .op (.faddr 1) [v0] fun v1 =>
 .load none v1 fun v2 =>
 .mem (.getI (I 0) true) [v2, v901] fun v3 =>
 .op (.ext 0) [v3] fun v4 =>
 .op (.ext 1) [v3] fun v5 =>
 .cnd v5 (
 .ret .ret [v4]) (
 .call 13 [v900, ff] fun v6 =>
 .op .nonnil [v900] fun v7 =>
 .op (.faddr 1) [v7] fun v8 =>
 .load none v8 fun v9 =>
 .op (.nileq false .mp) [v9, (.map none)] fun v10 =>
 .cnd v10 (
 .mnew fun v11 =>
 .op .nonnil [v900] fun v12 =>
 .op (.faddr 1) [v12] fun v13 =>
 .store 1 v13 v11 (
 .op .nonnil [v900] fun v14 =>
 .op (.faddr 1) [v14] fun v15 =>
 .load none v15 fun v16 =>
 .op .nonnil [v900] fun v17 =>
 .op (.faddr 1) [v17] fun v18 =>
 .load none v18 fun v19 =>
 .mem (.entryI (I 0)) [v16, v901] fun v20 =>
 .op (.ext 1) [v20] fun v21 =>
 .mem .storeI [v16, v21, v6] fun v22 =>
 .mem (.entryI (I 0)) [v19, v6] fun v23 =>
 .op (.ext 1) [v23] fun v24 =>
 .mem .storeI [v19, v24, v6] fun v25 =>
 .ret .ret [v6])) (
 .op .nonnil [v900] fun v26 =>
 .op (.faddr 1) [v26] fun v27 =>
 .load none v27 fun v28 =>
 .op .nonnil [v900] fun v29 =>
 .op (.faddr 1) [v29] fun v30 =>
 .load none v30 fun v31 =>
 .mem (.entryI (I 0)) [v28, v901] fun v32 =>
 .op (.ext 1) [v32] fun v33 =>
 .mem .storeI [v28, v33, v6] fun v34 =>
 .mem (.entryI (I 0)) [v31, v6] fun v35 =>
 .op (.ext 1) [v35] fun v36 =>
 .mem .storeI [v31, v36, v6] fun v37 =>
 .ret .ret [v6]))
theorem t166_eq (v900 v901 : AVal) : afun cx 166 [v900, v901] = t166 v900 v901 := by kernel_rfl
end Go.Am
