/-
  The trees of the functions, written by a program; each is held against the code by the kernel. No law is claimed here.
-/
import Derived.Test.YtpikmmnpebamnaaGreatDoorCtx
import Derived.KernelRfl
namespace Go.Am
open Go
set_option linter.unusedVariables false
def t3 (v900 v901 : AVal) : IT :=
 .cells 5 v900 fun c0 =>
 .call 6 [(.agg [(g c0 0), (g c0 1), (g c0 2), (g c0 3), (g c0 4)])] fun v1 =>
 .op (.un .not) [v1] fun v2 =>
 .cnd v2 (
 .pcall 7 [] fun v3 =>
 .ret .ret [v3]) (
 .op (.mkagg [ff, (I 0), (S []), .slnil, ff, ff] [(0, 1), (1, 5)]) [tt, (.agg [(g c0 0), (g c0 1), (g c0 2), (g c0 3), (g c0 4)])] fun v4 =>
 .op (.mkagg [ff, (I 0), (S []), .slnil, ff, ff] [(0, 1), (1, 5)]) [tt, (.agg [(g c0 0), (g c0 1), (g c0 2), (g c0 3), (g c0 4)])] fun v5 =>
 .call 8 [v4] fun v6 =>
 .call 9 [v5] fun v7 =>
 .op (.peq false) [v6, (.ptr none)] fun v8 =>
 .cnd v8 (
 .ret .ret [ff]) (
 .call 10 [v6, v7] fun v9 =>
 .op (.un .not) [v9] fun v10 =>
 .cnd v10 (
 .ret .ret [ff]) (
 .op .nonnil [v6] fun v11 =>
 .op (.faddr 10) [v11] fun v12 =>
 .load (some 4) v12 fun v13 =>
 .op .nonnil [v7] fun v14 =>
 .op (.faddr 10) [v14] fun v15 =>
 .load (some 4) v15 fun v16 =>
 .call 11 [v13] fun v17 =>
 .load (some 4) v15 fun v18 =>
 .same v16 v18 (
 .op (.geq true [.i, .i, .s, .b]) [v17, v16] fun v19 =>
 .cnd v19 (
 .ret .ret [ff]) (
 .op .nonnil [v6] fun v20 =>
 .op (.faddr 9) [v20] fun v21 =>
 .load none v21 fun v22 =>
 .op (.beq true) [v22, tt] fun v23 =>
 .cnd v23 (
 .ret .ret [ff]) (
 .call 12 [] fun v24 =>
 .call 13 [v24, ff] fun v25 =>
 .call 14 [v24, v25, (S [120])] fun v26 =>
 .op (.int .neq) [v901, (I 1)] fun v27 =>
 .cnd v27 (
 .call 15 [v24, v901] fun v28 =>
 .op (.peq true) [v28, (.ptr none)] fun v29 =>
 .cnd v29 (
 .ret .ret [ff]) (
 .call 16 [v24, v901, (.agg [(g c0 0), (g c0 1), (g c0 2), (g c0 3), (g c0 4)])] fun v30 =>
 .op (.peq true) [v30, (.ptr none)] fun v31 =>
 .cnd v31 (
 .ret .ret [ff]) (
 .call 15 [(.ptr none), v901] fun v32 =>
 .op (.peq true) [v32, (.ptr none)] fun v33 =>
 .cnd v33 (
 .ret .ret [ff]) (
 .call 16 [(.ptr none), v901, (.agg [(g c0 0), (g c0 1), (g c0 2), (g c0 3), (g c0 4)])] fun v34 =>
 .op (.peq true) [v34, (.ptr none)] fun v35 =>
 .cnd v35 (
 .ret .ret [ff]) (
 .call 15 [v24, (I 1)] fun v36 =>
 .op (.peq false) [v36, (.ptr none)] fun v37 =>
 .cnd v37 (
 .ret .ret [ff]) (
 .call 17 [v36] fun v38 =>
 .cells 13 v38 fun c39 =>
 .op .nonnil [v36] fun v40 =>
 .op (.faddr 0) [v40] fun v41 =>
 .load none v41 fun v42 =>
 .op (.peq false) [v42, v24] fun v43 =>
 .cnd v43 (
 .op .nonnil [v36] fun v44 =>
 .op (.faddr 1) [v44] fun v45 =>
 .load none v45 fun v46 =>
 .op (.int .eql) [v46, (I 1)] fun v47 =>
 .cnd v47 (
 .op .nonnil [v36] fun v48 =>
 .op (.faddr 9) [v48] fun v49 =>
 .load none v49 fun v50 =>
 .op (.un .not) [v50] fun v51 =>
 .cnd v51 (
 .op (.mkagg [(I 0), (I 0), .slnil, .slnil, .slnil, (I 0), (I 0), ff, ff, (S []), ff, (I 0), ff] [(0, 1), (7, 1)]) [(I 1), tt] fun v52 =>
 .call 18 [(.agg [(g c39 0), (g c39 1), (g c39 2), (g c39 3), (g c39 4), (g c39 5), (g c39 6), (g c39 7), (g c39 8), (g c39 9), (g c39 10), (g c39 11), (g c39 12)]), v52] fun v53 =>
 .cnd v53 (
 .call 19 [v24] fun v54 =>
 .op (.int .eql) [v54, (I 2)] fun v55 =>
 .cnd v55 (
 .pcall 7 [] fun v56 =>
 .ret .ret [v56]) (
 .ret .ret [ff])) (
 .ret .ret [ff])) (
 .ret .ret [ff])) (
 .ret .ret [ff])) (
 .ret .ret [ff]))))))) (
 .call 15 [(.ptr none), v901] fun v57 =>
 .op (.peq true) [v57, (.ptr none)] fun v58 =>
 .cnd v58 (
 .ret .ret [ff]) (
 .call 16 [(.ptr none), v901, (.agg [(g c0 0), (g c0 1), (g c0 2), (g c0 3), (g c0 4)])] fun v59 =>
 .op (.peq true) [v59, (.ptr none)] fun v60 =>
 .cnd v60 (
 .ret .ret [ff]) (
 .call 15 [v24, (I 1)] fun v61 =>
 .op (.peq false) [v61, (.ptr none)] fun v62 =>
 .cnd v62 (
 .ret .ret [ff]) (
 .call 17 [v61] fun v63 =>
 .cells 13 v63 fun c64 =>
 .op .nonnil [v61] fun v65 =>
 .op (.faddr 0) [v65] fun v66 =>
 .load none v66 fun v67 =>
 .op (.peq false) [v67, v24] fun v68 =>
 .cnd v68 (
 .op .nonnil [v61] fun v69 =>
 .op (.faddr 1) [v69] fun v70 =>
 .load none v70 fun v71 =>
 .op (.int .eql) [v71, (I 1)] fun v72 =>
 .cnd v72 (
 .op .nonnil [v61] fun v73 =>
 .op (.faddr 9) [v73] fun v74 =>
 .load none v74 fun v75 =>
 .op (.un .not) [v75] fun v76 =>
 .cnd v76 (
 .op (.mkagg [(I 0), (I 0), .slnil, .slnil, .slnil, (I 0), (I 0), ff, ff, (S []), ff, (I 0), ff] [(0, 1), (7, 1)]) [(I 1), tt] fun v77 =>
 .call 18 [(.agg [(g c64 0), (g c64 1), (g c64 2), (g c64 3), (g c64 4), (g c64 5), (g c64 6), (g c64 7), (g c64 8), (g c64 9), (g c64 10), (g c64 11), (g c64 12)]), v77] fun v78 =>
 .cnd v78 (
 .call 19 [v24] fun v79 =>
 .op (.int .eql) [v79, (I 2)] fun v80 =>
 .cnd v80 (
 .pcall 7 [] fun v81 =>
 .ret .ret [v81]) (
 .ret .ret [ff])) (
 .ret .ret [ff])) (
 .ret .ret [ff])) (
 .ret .ret [ff])) (
 .ret .ret [ff])))))))))))
theorem t3_eq (v900 v901 : AVal) : afun cx 3 [v900, v901] = t3 v900 v901 := by kernel_rfl
def t4 (v900 v901 : AVal) : IT :=
 .call 20 [v900] fun v0 =>
 .op (.un .not) [v0] fun v1 =>
 .cnd v1 (
 .pcall 7 [] fun v2 =>
 .ret .ret [v2]) (
 .call 20 [v901] fun v3 =>
 .op (.un .not) [v3] fun v4 =>
 .cnd v4 (
 .pcall 7 [] fun v5 =>
 .ret .ret [v5]) (
 .op (.mkagg [ff, (I 0), (S []), .slnil, ff, ff] []) [] fun v6 =>
 .call 8 [v6] fun v7 =>
 .op (.peq false) [v7, (.ptr none)] fun v8 =>
 .cnd v8 (
 .ret .ret [ff]) (
 .op (.append 3 40) [.slnil, v900] fun v9 =>
 .op (.mkagg [(I 0), (S []), ff, (S []), ff, (S []), ff, ff, .slnil, ff, (S []), (.int .i32 0)] [(0, 1), (1, 1), (8, 1)]) [(I 2), (S [104,116,109,108]), v9] fun v10 =>
 .call 21 [v7, v10] fun v11 =>
 .op .nonnil [v7] fun v12 =>
 .op (.faddr 0) [v12] fun v13 =>
 .load none v13 fun v14 =>
 .call 22 [v14, v11] fun v15 =>
 .op (.ext 0) [v15] fun v16 =>
 .op (.ext 1) [v15] fun v17 =>
 .cells 13 v16 fun c18 =>
 .op (.append 3 40) [.slnil, v901] fun v19 =>
 .op (.mkagg [(I 0), (S []), ff, (S []), ff, (S []), ff, ff, .slnil, ff, (S []), (.int .i32 0)] [(0, 1), (1, 1), (8, 1)]) [(I 2), (S [104,116,109,108]), v19] fun v20 =>
 .call 23 [v7, v20, v11] fun v21 =>
 .op .nonnil [v7] fun v22 =>
 .op (.faddr 0) [v22] fun v23 =>
 .load none v23 fun v24 =>
 .call 22 [v24, v11] fun v25 =>
 .op (.ext 0) [v25] fun v26 =>
 .op (.ext 1) [v25] fun v27 =>
 .cells 13 v26 fun c28 =>
 .op (.int .neq) [v17, (I 0)] fun v29 =>
 .cnd v29 (
 .ret .ret [ff]) (
 .op (.int .neq) [v27, (I 0)] fun v30 =>
 .cnd v30 (
 .ret .ret [ff]) (
 .op (.len false) [(g c28 6)] fun v31 =>
 .op (.len false) [(g c18 6)] fun v32 =>
 .op (.int .lss) [v31, v32] fun v33 =>
 .cnd v33 (
 .ret .ret [ff]) (
 .op (.len false) [(g c18 6)] fun v34 =>
 .op (.slc 3 false false true) [(g c28 6), v34] fun v35 =>
 .call 24 [(g c18 6), v35] fun v36 =>
 .op (.un .not) [v36] fun v37 =>
 .cnd v37 (
 .ret .ret [ff]) (
 .loop 13 [ff, (I 0)] (fun c38 =>
 .op (.len false) [v901] fun v39 =>
 .op (.int .lss) [(g c38 1), v39] fun v40 =>
 .cnd v40 (
 .loop 17 [(I 0), (I 0)] (fun c41 =>
 .op (.len false) [(g c28 6)] fun v42 =>
 .op (.int .lss) [(g c41 1), v42] fun v43 =>
 .cnd v43 (
 .op (.eaddr 3) [(g c28 6), (g c41 1)] fun v44 =>
 .op (.faddr 1) [v44] fun v45 =>
 .load none v45 fun v46 =>
 .op (.eaddr 3) [v901, (g c38 1)] fun v47 =>
 .op (.faddr 1) [v47] fun v48 =>
 .load none v48 fun v49 =>
 .op (.str .eql) [v46, v49] fun v50 =>
 .cnd v50 (
 .op (.int .add) [(g c41 0), (I 1)] fun v51 =>
 .op (.int .add) [(g c41 1), (I 1)] fun v52 =>
 .ret .normal [v51, v52]) (
 .op (.int .add) [(g c41 1), (I 1)] fun v53 =>
 .ret .normal [(g c41 0), v53])) (
 .ret (.exit 2) [(g c41 0), (g c41 1)])) (
 fun x c54 => match x with
 | .normal =>
 .fail
 | .exit i =>
 if i = 2 then
 .op (.int .neq) [(g c54 0), (I 1)] fun v55 =>
 .cnd v55 (
 .ret .ret [ff, (g c38 1)]) (
 .op (.int .add) [(g c38 1), (I 1)] fun v56 =>
 .ret .normal [(g c38 0), v56])
 else
 if i = 1 then
 .op (.int .add) [(g c38 1), (I 1)] fun v57 =>
 .ret .normal [(g c38 0), v57]
 else
 .ret (.exit i) [(g c38 0), (g c38 1)]
 | .ret =>
 .ret .ret [(g c38 0), (g c38 1)])) (
 .ret (.exit 0) [(g c38 0), (g c38 1)])) (
 fun x c58 => match x with
 | .normal =>
 .fail
 | .exit i =>
 if i = 0 then
 .op (.len false) [(g c18 6)] fun v59 =>
 .loop 24 [(g c58 0), v59] (fun c60 =>
 .op (.len false) [(g c28 6)] fun v61 =>
 .op (.int .lss) [(g c60 1), v61] fun v62 =>
 .cnd v62 (
 .op (.eaddr 3) [(g c28 6), (g c60 1)] fun v63 =>
 .load (some 3) v63 fun v64 =>
 .call 25 [v901, v64] fun v65 =>
 .op (.un .not) [v65] fun v66 =>
 .cnd v66 (
 .ret .ret [ff, (g c60 1)]) (
 .op (.int .add) [(g c60 1), (I 1)] fun v67 =>
 .ret .normal [(g c60 0), v67])) (
 .ret (.exit 4) [(g c60 0), (g c60 1)])) (
 fun x c68 => match x with
 | .normal =>
 .fail
 | .exit i =>
 if i = 4 then
 .pcall 7 [] fun v69 =>
 .ret .ret [v69]
 else
 .fail
 | .ret =>
 .ret .ret [(g c68 0)])
 else
 .fail
 | .ret =>
 .ret .ret [(g c58 0)]))))))))
theorem t4_eq (v900 v901 : AVal) : afun cx 4 [v900, v901] = t4 v900 v901 := by kernel_rfl
def t5 (v900 v901 : AVal) : IT :=
 .cells 9 v900 fun c0 =>
 .op (.mksl 9) [(.agg [(g c0 0), (g c0 1), (g c0 2), (g c0 3), (g c0 4), (g c0 5), (g c0 6), (g c0 7), (g c0 8)])] fun v1 =>
 .call 26 [v1, (I 1)] fun v2 =>
 .op (.un .not) [v2] fun v3 =>
 .cnd v3 (
 .pcall 7 [] fun v4 =>
 .ret .ret [v4]) (
 .call 27 [(.ptr none), v901] fun v5 =>
 .op (.ext 0) [v5] fun v6 =>
 .op (.ext 1) [v5] fun v7 =>
 .op (.int .neq) [v6, (I 0)] fun v8 =>
 .cnd v8 (
 .ret .ret [ff]) (
 .op (.int .neq) [v7, (I 0)] fun v9 =>
 .cnd v9 (
 .ret .ret [ff]) (
 .call 28 [(.ptr none)] fun v10 =>
 .op (.mkagg [(I 0), (I 0), (S []), ff] []) [] fun v11 =>
 .op (.geq true [.i, .i, .s, .b]) [v10, v11] fun v12 =>
 .cnd v12 (
 .ret .ret [ff]) (
 .call 29 [(.ptr none)] fun v13 =>
 .op (.mkagg [(I 0), (I 0), (S []), ff] []) [] fun v14 =>
 .op (.geq true [.i, .i, .s, .b]) [v13, v14] fun v15 =>
 .cnd v15 (
 .ret .ret [ff]) (
 .call 17 [(.ptr none)] fun v16 =>
 .op (.mkagg [(I 0), (I 0), .slnil, .slnil, .slnil, (I 0), (I 0), ff, ff, (S []), ff, (I 0), ff] []) [] fun v17 =>
 .call 18 [v16, v17] fun v18 =>
 .op (.un .not) [v18] fun v19 =>
 .cnd v19 (
 .ret .ret [ff]) (
 .op (.int .lss) [(g c0 0), (I 15)] fun v20 =>
 .cnd v20 (
 .call 30 [(.ptr none), (.agg [(g c0 0), (g c0 1), (g c0 2), (g c0 3), (g c0 4), (g c0 5), (g c0 6), (g c0 7), (g c0 8)])] fun v21 =>
 .op (.mkagg [(I 0), (I 0), (S []), ff] []) [] fun v22 =>
 .op (.geq true [.i, .i, .s, .b]) [v21, v22] fun v23 =>
 .cnd v23 (
 .ret .ret [ff]) (
 .alloc 20 (.agg [(.ptr none), (I 0), .slnil, .slnil, (I 0), (I 0), .slnil, (I 0), (I 0), ff, (I 0), (I 0), (S []), ff, ff, ff, (S []), ff, (I 0), ff]) fun v24 =>
 .call 27 [v24, v901] fun v25 =>
 .op (.ext 0) [v25] fun v26 =>
 .op (.ext 1) [v25] fun v27 =>
 .op (.int .neq) [v26, (I 0)] fun v28 =>
 .cnd v28 (
 .ret .ret [ff]) (
 .op (.int .neq) [v27, (I 0)] fun v29 =>
 .cnd v29 (
 .ret .ret [ff]) (
 .call 29 [v24] fun v30 =>
 .op (.mkagg [(I 0), (I 0), (S []), ff] []) [] fun v31 =>
 .op (.geq true [.i, .i, .s, .b]) [v30, v31] fun v32 =>
 .cnd v32 (
 .ret .ret [ff]) (
 .op (.int .lss) [(g c0 0), (I 15)] fun v33 =>
 .cnd v33 (
 .call 30 [v24, (.agg [(g c0 0), (g c0 1), (g c0 2), (g c0 3), (g c0 4), (g c0 5), (g c0 6), (g c0 7), (g c0 8)])] fun v34 =>
 .op (.mkagg [(I 0), (I 0), (S []), ff] []) [] fun v35 =>
 .op (.geq true [.i, .i, .s, .b]) [v34, v35] fun v36 =>
 .cnd v36 (
 .ret .ret [ff]) (
 .call 17 [v24] fun v37 =>
 .op (.mkagg [(I 0), (I 0), .slnil, .slnil, .slnil, (I 0), (I 0), ff, ff, (S []), ff, (I 0), ff] []) [] fun v38 =>
 .call 18 [v37, v38] fun v39 =>
 .cnd v39 (
 .pcall 7 [] fun v40 =>
 .ret .ret [v40]) (
 .ret .ret [ff]))) (
 .op (.int .gtr) [(g c0 0), (I 23)] fun v41 =>
 .cnd v41 (
 .call 30 [v24, (.agg [(g c0 0), (g c0 1), (g c0 2), (g c0 3), (g c0 4), (g c0 5), (g c0 6), (g c0 7), (g c0 8)])] fun v42 =>
 .op (.mkagg [(I 0), (I 0), (S []), ff] []) [] fun v43 =>
 .op (.geq true [.i, .i, .s, .b]) [v42, v43] fun v44 =>
 .cnd v44 (
 .ret .ret [ff]) (
 .call 17 [v24] fun v45 =>
 .op (.mkagg [(I 0), (I 0), .slnil, .slnil, .slnil, (I 0), (I 0), ff, ff, (S []), ff, (I 0), ff] []) [] fun v46 =>
 .call 18 [v45, v46] fun v47 =>
 .cnd v47 (
 .pcall 7 [] fun v48 =>
 .ret .ret [v48]) (
 .ret .ret [ff]))) (
 .call 17 [v24] fun v49 =>
 .op (.mkagg [(I 0), (I 0), .slnil, .slnil, .slnil, (I 0), (I 0), ff, ff, (S []), ff, (I 0), ff] []) [] fun v50 =>
 .call 18 [v49, v50] fun v51 =>
 .cnd v51 (
 .pcall 7 [] fun v52 =>
 .ret .ret [v52]) (
 .ret .ret [ff])))))))) (
 .op (.int .gtr) [(g c0 0), (I 23)] fun v53 =>
 .cnd v53 (
 .call 30 [(.ptr none), (.agg [(g c0 0), (g c0 1), (g c0 2), (g c0 3), (g c0 4), (g c0 5), (g c0 6), (g c0 7), (g c0 8)])] fun v54 =>
 .op (.mkagg [(I 0), (I 0), (S []), ff] []) [] fun v55 =>
 .op (.geq true [.i, .i, .s, .b]) [v54, v55] fun v56 =>
 .cnd v56 (
 .ret .ret [ff]) (
 .alloc 20 (.agg [(.ptr none), (I 0), .slnil, .slnil, (I 0), (I 0), .slnil, (I 0), (I 0), ff, (I 0), (I 0), (S []), ff, ff, ff, (S []), ff, (I 0), ff]) fun v57 =>
 .call 27 [v57, v901] fun v58 =>
 .op (.ext 0) [v58] fun v59 =>
 .op (.ext 1) [v58] fun v60 =>
 .op (.int .neq) [v59, (I 0)] fun v61 =>
 .cnd v61 (
 .ret .ret [ff]) (
 .op (.int .neq) [v60, (I 0)] fun v62 =>
 .cnd v62 (
 .ret .ret [ff]) (
 .call 29 [v57] fun v63 =>
 .op (.mkagg [(I 0), (I 0), (S []), ff] []) [] fun v64 =>
 .op (.geq true [.i, .i, .s, .b]) [v63, v64] fun v65 =>
 .cnd v65 (
 .ret .ret [ff]) (
 .op (.int .lss) [(g c0 0), (I 15)] fun v66 =>
 .cnd v66 (
 .call 30 [v57, (.agg [(g c0 0), (g c0 1), (g c0 2), (g c0 3), (g c0 4), (g c0 5), (g c0 6), (g c0 7), (g c0 8)])] fun v67 =>
 .op (.mkagg [(I 0), (I 0), (S []), ff] []) [] fun v68 =>
 .op (.geq true [.i, .i, .s, .b]) [v67, v68] fun v69 =>
 .cnd v69 (
 .ret .ret [ff]) (
 .call 17 [v57] fun v70 =>
 .op (.mkagg [(I 0), (I 0), .slnil, .slnil, .slnil, (I 0), (I 0), ff, ff, (S []), ff, (I 0), ff] []) [] fun v71 =>
 .call 18 [v70, v71] fun v72 =>
 .cnd v72 (
 .pcall 7 [] fun v73 =>
 .ret .ret [v73]) (
 .ret .ret [ff]))) (
 .op (.int .gtr) [(g c0 0), (I 23)] fun v74 =>
 .cnd v74 (
 .call 30 [v57, (.agg [(g c0 0), (g c0 1), (g c0 2), (g c0 3), (g c0 4), (g c0 5), (g c0 6), (g c0 7), (g c0 8)])] fun v75 =>
 .op (.mkagg [(I 0), (I 0), (S []), ff] []) [] fun v76 =>
 .op (.geq true [.i, .i, .s, .b]) [v75, v76] fun v77 =>
 .cnd v77 (
 .ret .ret [ff]) (
 .call 17 [v57] fun v78 =>
 .op (.mkagg [(I 0), (I 0), .slnil, .slnil, .slnil, (I 0), (I 0), ff, ff, (S []), ff, (I 0), ff] []) [] fun v79 =>
 .call 18 [v78, v79] fun v80 =>
 .cnd v80 (
 .pcall 7 [] fun v81 =>
 .ret .ret [v81]) (
 .ret .ret [ff]))) (
 .call 17 [v57] fun v82 =>
 .op (.mkagg [(I 0), (I 0), .slnil, .slnil, .slnil, (I 0), (I 0), ff, ff, (S []), ff, (I 0), ff] []) [] fun v83 =>
 .call 18 [v82, v83] fun v84 =>
 .cnd v84 (
 .pcall 7 [] fun v85 =>
 .ret .ret [v85]) (
 .ret .ret [ff])))))))) (
 .alloc 20 (.agg [(.ptr none), (I 0), .slnil, .slnil, (I 0), (I 0), .slnil, (I 0), (I 0), ff, (I 0), (I 0), (S []), ff, ff, ff, (S []), ff, (I 0), ff]) fun v86 =>
 .call 27 [v86, v901] fun v87 =>
 .op (.ext 0) [v87] fun v88 =>
 .op (.ext 1) [v87] fun v89 =>
 .op (.int .neq) [v88, (I 0)] fun v90 =>
 .cnd v90 (
 .ret .ret [ff]) (
 .op (.int .neq) [v89, (I 0)] fun v91 =>
 .cnd v91 (
 .ret .ret [ff]) (
 .call 29 [v86] fun v92 =>
 .op (.mkagg [(I 0), (I 0), (S []), ff] []) [] fun v93 =>
 .op (.geq true [.i, .i, .s, .b]) [v92, v93] fun v94 =>
 .cnd v94 (
 .ret .ret [ff]) (
 .op (.int .lss) [(g c0 0), (I 15)] fun v95 =>
 .cnd v95 (
 .call 30 [v86, (.agg [(g c0 0), (g c0 1), (g c0 2), (g c0 3), (g c0 4), (g c0 5), (g c0 6), (g c0 7), (g c0 8)])] fun v96 =>
 .op (.mkagg [(I 0), (I 0), (S []), ff] []) [] fun v97 =>
 .op (.geq true [.i, .i, .s, .b]) [v96, v97] fun v98 =>
 .cnd v98 (
 .ret .ret [ff]) (
 .call 17 [v86] fun v99 =>
 .op (.mkagg [(I 0), (I 0), .slnil, .slnil, .slnil, (I 0), (I 0), ff, ff, (S []), ff, (I 0), ff] []) [] fun v100 =>
 .call 18 [v99, v100] fun v101 =>
 .cnd v101 (
 .pcall 7 [] fun v102 =>
 .ret .ret [v102]) (
 .ret .ret [ff]))) (
 .op (.int .gtr) [(g c0 0), (I 23)] fun v103 =>
 .cnd v103 (
 .call 30 [v86, (.agg [(g c0 0), (g c0 1), (g c0 2), (g c0 3), (g c0 4), (g c0 5), (g c0 6), (g c0 7), (g c0 8)])] fun v104 =>
 .op (.mkagg [(I 0), (I 0), (S []), ff] []) [] fun v105 =>
 .op (.geq true [.i, .i, .s, .b]) [v104, v105] fun v106 =>
 .cnd v106 (
 .ret .ret [ff]) (
 .call 17 [v86] fun v107 =>
 .op (.mkagg [(I 0), (I 0), .slnil, .slnil, .slnil, (I 0), (I 0), ff, ff, (S []), ff, (I 0), ff] []) [] fun v108 =>
 .call 18 [v107, v108] fun v109 =>
 .cnd v109 (
 .pcall 7 [] fun v110 =>
 .ret .ret [v110]) (
 .ret .ret [ff]))) (
 .call 17 [v86] fun v111 =>
 .op (.mkagg [(I 0), (I 0), .slnil, .slnil, .slnil, (I 0), (I 0), ff, ff, (S []), ff, (I 0), ff] []) [] fun v112 =>
 .call 18 [v111, v112] fun v113 =>
 .cnd v113 (
 .pcall 7 [] fun v114 =>
 .ret .ret [v114]) (
 .ret .ret [ff]))))))))))))))
theorem t5_eq (v900 v901 : AVal) : afun cx 5 [v900, v901] = t5 v900 v901 := by kernel_rfl
def t6 (v900 : AVal) : IT :=
 .cells 5 v900 fun c0 =>
 .op (.len true) [(g c0 1)] fun v1 =>
 .op (.int .leq) [v1, (I 60)] fun v2 =>
 .cnd v2 (
 .call 20 [(g c0 2)] fun v3 =>
 .ret .ret [v3]) (
 .ret .ret [ff])
theorem t6_eq (v900 : AVal) : afun cx 6 [v900] = t6 v900 := by kernel_rfl
def t7 : IT :=
 .op (.mkagg [ff, (I 0), (S []), .slnil, ff, ff] []) [] fun v0 =>
 .call 8 [v0] fun v1 =>
 .op (.peq false) [v1, (.ptr none)] fun v2 =>
 .cnd v2 (
 .ret .ret [ff]) (
 .op (.mksl 1) [(S [104,116,109,108]), (S [98,111,100,121])] fun v3 =>
 .op (.len false) [v3] fun v4 =>
 .loop 5 [(I 0)] (fun c5 =>
 .op (.int .lss) [(g c5 0), v4] fun v6 =>
 .cnd v6 (
 .op (.eaddr 1) [v3, (g c5 0)] fun v7 =>
 .load none v7 fun v8 =>
 .op (.mkagg [(I 0), (S []), ff, (S []), ff, (S []), ff, ff, .slnil, ff, (S []), (.int .i32 0)] [(0, 1), (1, 1)]) [(I 2), v8] fun v9 =>
 .call 21 [v1, v9] fun v10 =>
 .op (.int .add) [(g c5 0), (I 1)] fun v11 =>
 .ret .normal [v11]) (
 .ret (.exit 0) [(g c5 0)])) (
 fun x c12 => match x with
 | .normal =>
 .fail
 | .exit i =>
 if i = 0 then
 .op (.mkagg [(I 0), (S []), ff, (S []), ff, (S []), ff, ff, .slnil, ff, (S []), (.int .i32 0)] [(0, 1), (1, 1)]) [(I 2), (S [98])] fun v13 =>
 .call 31 [v1, v13] fun v14 =>
 .op (.int .neq) [v14, (I 4)] fun v15 =>
 .cnd v15 (
 .ret .ret [ff]) (
 .op (.mkagg [(I 0), (S []), ff, (S []), ff, (S []), ff, ff, .slnil, ff, (S []), (.int .i32 0)] [(0, 1), (1, 1)]) [(I 2), (S [112])] fun v16 =>
 .call 21 [v1, v16] fun v17 =>
 .op (.int .neq) [v17, (I 5)] fun v18 =>
 .cnd v18 (
 .ret .ret [ff]) (
 .call 32 [v1, (.int .i32 120)] fun v19 =>
 .call 28 [v1] fun v20 =>
 .op (.part 0 none) [v20] fun v21 =>
 .op (.int .neq) [v21, (I 5)] fun v22 =>
 .cnd v22 (
 .ret .ret [ff]) (
 .call 33 [v1, (S [98])] fun v23 =>
 .call 17 [v1] fun v24 =>
 .cells 13 v24 fun c25 =>
 .op .nonnil [v1] fun v26 =>
 .op (.faddr 0) [v26] fun v27 =>
 .load none v27 fun v28 =>
 .call 34 [v28, (I 3)] fun v29 =>
 .op (.str .eql) [v29, (S [101,108,101,109,101,110,116,32,49,32,34,98,111,100,121,34,10,32,32,101,108,101,109,101,110,116,32,49,32,34,98,34,10,32,32,101,108,101,109,101,110,116,32,49,32,34,112,34,10,32,32,32,32,101,108,101,109,101,110,116,32,49,32,34,98,34,10,32,32,32,32,32,32,116,101,120,116,32,34,120,34,10])] fun v30 =>
 .cnd v30 (
 .op (.mksl 1) [(I 2), (I 3), (I 5)] fun v31 =>
 .call 35 [(g c25 3), v31] fun v32 =>
 .cnd v32 (
 .op (.len false) [(g c25 4)] fun v33 =>
 .op (.int .eql) [v33, (I 0)] fun v34 =>
 .ret .ret [v34]) (
 .ret .ret [ff])) (
 .ret .ret [ff]))))
 else
 .fail
 | .ret =>
 .ret .ret [ff]))
theorem t7_eq : afun cx 7 [] = t7  := by kernel_rfl
def t8 (v900 : AVal) : IT :=
 .cells 6 v900 fun c0 =>
 .call 12 [] fun v1 =>
 .call 13 [v1, (g c0 4)] fun v2 =>
 .cnd (g c0 0) (
 .call 16 [v1, v2, (.agg [(g c0 1), (g c0 2), (g c0 3), (g c0 4), (g c0 5)])] fun v3 =>
 .ret .ret [v3]) (
 .call 15 [v1, v2] fun v4 =>
 .ret .ret [v4])
theorem t8_eq (v900 : AVal) : afun cx 8 [v900] = t8 v900 := by kernel_rfl
def t9 (v900 : AVal) : IT :=
 .cells 6 v900 fun c0 =>
 .call 36 [] fun v1 =>
 .call 37 [v1, (g c0 4)] fun v2 =>
 .cnd (g c0 0) (
 .call 38 [v1, v2, (.agg [(g c0 1), (g c0 2), (g c0 3), (g c0 4), (g c0 5)])] fun v3 =>
 .ret .ret [v3]) (
 .call 39 [v1, v2] fun v4 =>
 .ret .ret [v4])
theorem t9_eq (v900 : AVal) : afun cx 9 [v900] = t9 v900 := by kernel_rfl
def t10 (v900 v901 : AVal) : IT :=
 .op (.peq true) [v900, (.ptr none)] fun v0 =>
 .cnd v0 (
 .call 17 [v900] fun v1 =>
 .call 40 [v901] fun v2 =>
 .call 18 [v1, v2] fun v3 =>
 .cnd v3 (
 .op .nonnil [v900] fun v4 =>
 .op (.faddr 0) [v4] fun v5 =>
 .load none v5 fun v6 =>
 .op .nonnil [v901] fun v7 =>
 .op (.faddr 0) [v7] fun v8 =>
 .load none v8 fun v9 =>
 .call 41 [v6, v9] fun v10 =>
 .ret .ret [v10]) (
 .ret .ret [ff])) (
 .ret .ret [ff])
theorem t10_eq (v900 v901 : AVal) : afun cx 10 [v900, v901] = t10 v900 v901 := by kernel_rfl
def t11 (v900 : AVal) : IT :=
 .cells 4 v900 fun c0 =>
 .op (.mkagg [(I 0), (I 0), (S []), ff] [(0, 1), (1, 1), (2, 1), (3, 1)]) [(g c0 0), (g c0 1), (g c0 2), (g c0 3)] fun v1 =>
 .cells 4 v1 fun c2 =>
 .ret .ret [(.agg [(g c2 0), (g c2 1), (g c2 2), (g c2 3)])]
theorem t11_eq (v900 : AVal) : afun cx 11 [v900] = t11 v900 := by kernel_rfl
def t12 : IT :=
 .op (.mkagg [.slnil, (.map none)] []) [] fun v0 =>
 .alloc 2 v0 fun v1 =>
 .ret .ret [v1]
theorem t12_eq : afun cx 12 [] = t12  := by kernel_rfl
def t13 (v900 v901 : AVal) : IT :=
 .op (.peq false) [v900, (.ptr none)] fun v0 =>
 .cnd v0 (
 .ret .ret [(I 0)]) (
 .op (.mkagg [(I 0), (I 0), .slnil, (I 0), (I 0), (S []), .slnil, (S []), (S []), (S []), ff, (I 0), (I 0)] [(0, 1), (10, 1)]) [(I 1), v901] fun v1 =>
 .call 42 [v900, v1] fun v2 =>
 .call 43 [v900, v2] fun v3 =>
 .op .nonnil [v3] fun v4 =>
 .op (.faddr 0) [v4] fun v5 =>
 .op (.faddr 3) [v5] fun v6 =>
 .store 1 v6 v2 (
 .ret .ret [v2]))
theorem t13_eq (v900 v901 : AVal) : afun cx 13 [v900, v901] = t13 v900 v901 := by kernel_rfl
def t14 (v900 v901 v902 : AVal) : IT :=
 .op (.mkagg [(I 0), (I 0), .slnil, (I 0), (I 0), (S []), .slnil, (S []), (S []), (S []), ff, (I 0), (I 0)] [(0, 1), (7, 1)]) [(I 6), v902] fun v0 =>
 .call 44 [v900, v901, v0] fun v1 =>
 .op (.ext 0) [v1] fun v2 =>
 .op (.ext 1) [v1] fun v3 =>
 .ret .ret [(.tuple [v2, v3])]
theorem t14_eq (v900 v901 v902 : AVal) : afun cx 14 [v900, v901, v902] = t14 v900 v901 v902 := by kernel_rfl
def t15 (v900 v901 : AVal) : IT :=
 .call 22 [v900, v901] fun v0 =>
 .op (.ext 0) [v0] fun v1 =>
 .op (.ext 1) [v0] fun v2 =>
 .cells 13 v1 fun c3 =>
 .op (.int .neq) [v2, (I 0)] fun v4 =>
 .cnd v4 (
 .ret .ret [(.ptr none)]) (
 .op (.int .neq) [(g c3 0), (I 1)] fun v5 =>
 .cnd v5 (
 .ret .ret [(.ptr none)]) (
 .op (.mkagg [(.ptr none), (I 0), .slnil, .slnil, (I 0), (I 0), .slnil, (I 0), (I 0), ff, (I 0), (I 0), (S []), ff, ff, ff, (S []), ff, (I 0), ff] [(0, 1), (1, 1), (4, 1), (14, 1)]) [v900, v901, (I 1), tt] fun v6 =>
 .alloc 20 v6 fun v7 =>
 .ret .ret [v7]))
theorem t15_eq (v900 v901 : AVal) : afun cx 15 [v900, v901] = t15 v900 v901 := by kernel_rfl
def t16 (v900 v901 v902 : AVal) : IT :=
 .cells 5 v902 fun c0 =>
 .call 15 [v900, v901] fun v1 =>
 .op (.peq false) [v1, (.ptr none)] fun v2 =>
 .cnd v2 (
 .ret .ret [(.ptr none)]) (
 .op (.mkagg [(I 0), (S []), ff, (S []), ff, (S []), ff, ff, .slnil, ff, (S []), (.int .i32 0)] [(0, 1), (1, 1)]) [(I 2), (S [104,116,109,108])] fun v3 =>
 .call 45 [v1, v3, (I 1), v901] fun v4 =>
 .cells 4 v4 fun c5 =>
 .call 46 [v1, (g c5 0), v901, (I 0)] fun v6 =>
 .op .nonnil [v1] fun v7 =>
 .op (.faddr 2) [v7] fun v8 =>
 .call 47 [v8, (.agg [(g c5 0), (g c5 1), (g c5 2), (g c5 3)])] fun v9 =>
 .op .nonnil [v1] fun v10 =>
 .op (.faddr 9) [v10] fun v11 =>
 .store 1 v11 tt (
 .call 48 [(g c0 0), (g c0 1), (g c0 2)] fun v12 =>
 .op (.mkagg [(I 0), (I 0), (S []), ff] [(1, 1), (2, 1), (3, 1)]) [(g c0 0), (g c0 1), v12] fun v13 =>
 .op .nonnil [v1] fun v14 =>
 .op (.faddr 10) [v14] fun v15 =>
 .store 4 v15 v13 (
 .op .nonnil [v1] fun v16 =>
 .op (.faddr 10) [v16] fun v17 =>
 .load (some 4) v17 fun v18 =>
 .op (.mksl 1) [(S [116,101,109,112,108,97,116,101])] fun v19 =>
 .call 49 [v18, v19] fun v20 =>
 .cnd v20 (
 .op (.mksl 1) [(I 18)] fun v21 =>
 .op .nonnil [v1] fun v22 =>
 .op (.faddr 6) [v22] fun v23 =>
 .store 1 v23 v21 (
 .call 50 [v1] fun v24 =>
 .cnd (g c0 4) (
 .op .nonnil [v1] fun v25 =>
 .op (.faddr 8) [v25] fun v26 =>
 .store 1 v26 (I (-1)) (
 .ret .ret [v1])) (
 .ret .ret [v1]))) (
 .call 50 [v1] fun v27 =>
 .cnd (g c0 4) (
 .op .nonnil [v1] fun v28 =>
 .op (.faddr 8) [v28] fun v29 =>
 .store 1 v29 (I (-1)) (
 .ret .ret [v1])) (
 .ret .ret [v1])))))
theorem t16_eq (v900 v901 v902 : AVal) : afun cx 16 [v900, v901, v902] = t16 v900 v901 v902 := by kernel_rfl
def t17 (v900 : AVal) : IT :=
 .call 51 [v900] fun v0 =>
 .op (.un .not) [v0] fun v1 =>
 .cnd v1 (
 .op (.mkagg [(I 0), (I 0), .slnil, .slnil, .slnil, (I 0), (I 0), ff, ff, (S []), ff, (I 0), ff] []) [] fun v2 =>
 .cells 13 v2 fun c3 =>
 .ret .ret [(.agg [(g c3 0), (g c3 1), (g c3 2), (g c3 3), (g c3 4), (g c3 5), (g c3 6), (g c3 7), (g c3 8), (g c3 9), (g c3 10), (g c3 11), (g c3 12)])]) (
 .op .nonnil [v900] fun v4 =>
 .op (.faddr 4) [v4] fun v5 =>
 .load none v5 fun v6 =>
 .op .nonnil [v900] fun v7 =>
 .op (.faddr 5) [v7] fun v8 =>
 .load none v8 fun v9 =>
 .op .nonnil [v900] fun v10 =>
 .op (.faddr 6) [v10] fun v11 =>
 .load none v11 fun v12 =>
 .op .nonnil [v900] fun v13 =>
 .op (.faddr 7) [v13] fun v14 =>
 .load none v14 fun v15 =>
 .op .nonnil [v900] fun v16 =>
 .op (.faddr 8) [v16] fun v17 =>
 .load none v17 fun v18 =>
 .op .nonnil [v900] fun v19 =>
 .op (.faddr 14) [v19] fun v20 =>
 .load none v20 fun v21 =>
 .op .nonnil [v900] fun v22 =>
 .op (.faddr 15) [v22] fun v23 =>
 .load none v23 fun v24 =>
 .op .nonnil [v900] fun v25 =>
 .op (.faddr 16) [v25] fun v26 =>
 .load none v26 fun v27 =>
 .op .nonnil [v900] fun v28 =>
 .op (.faddr 17) [v28] fun v29 =>
 .load none v29 fun v30 =>
 .op .nonnil [v900] fun v31 =>
 .op (.faddr 18) [v31] fun v32 =>
 .load none v32 fun v33 =>
 .op .nonnil [v900] fun v34 =>
 .op (.faddr 19) [v34] fun v35 =>
 .load none v35 fun v36 =>
 .call 52 [v12] fun v37 =>
 .load none v35 fun v38 =>
 .same v36 v38 (
 .load none v32 fun v39 =>
 .same v33 v39 (
 .load none v29 fun v40 =>
 .same v30 v40 (
 .load none v26 fun v41 =>
 .same v27 v41 (
 .load none v23 fun v42 =>
 .same v24 v42 (
 .load none v20 fun v43 =>
 .same v21 v43 (
 .load none v17 fun v44 =>
 .same v18 v44 (
 .load none v14 fun v45 =>
 .same v15 v45 (
 .load none v8 fun v46 =>
 .same v9 v46 (
 .load none v5 fun v47 =>
 .same v6 v47 (
 .op (.mkagg [(I 0), (I 0), .slnil, .slnil, .slnil, (I 0), (I 0), ff, ff, (S []), ff, (I 0), ff] [(0, 1), (1, 1), (2, 1), (5, 1), (6, 1), (7, 1), (8, 1), (9, 1), (10, 1), (11, 1), (12, 1)]) [v6, v9, v37, v15, v18, v21, v24, v27, v30, v33, v36] fun v48 =>
 .cells 13 v48 fun c49 =>
 .op .nonnil [v900] fun v50 =>
 .op (.faddr 2) [v50] fun v51 =>
 .op (.faddr 0) [v51] fun v52 =>
 .load none v52 fun v53 =>
 .op (.len false) [v53] fun v54 =>
 .loop 5 [(.agg [(g c49 0), (g c49 1), (g c49 2), (g c49 3), (g c49 4), (g c49 5), (g c49 6), (g c49 7), (g c49 8), (g c49 9), (g c49 10), (g c49 11), (g c49 12)]), (I 0)] (fun c55 =>
 .cells 13 (g c55 0) fun c56 =>
 .op (.int .lss) [(g c55 1), v54] fun v57 =>
 .cnd v57 (
 .op (.eaddr 4) [v53, (g c55 1)] fun v58 =>
 .load (some 4) v58 fun v59 =>
 .cells 4 v59 fun c60 =>
 .op (.mksl 1) [(g c60 0)] fun v61 =>
 .grow 1 8 (g c56 3) v61 fun v62 =>
 .cells 1 v62 fun c63 =>
 .op (.int .add) [(g c55 1), (I 1)] fun v64 =>
 .ret .normal [(.agg [(g c56 0), (g c56 1), (g c56 2), (g c63 0), (g c56 4), (g c56 5), (g c56 6), (g c56 7), (g c56 8), (g c56 9), (g c56 10), (g c56 11), (g c56 12)]), v64]) (
 .ret (.exit 0) [(.agg [(g c56 0), (g c56 1), (g c56 2), (g c56 3), (g c56 4), (g c56 5), (g c56 6), (g c56 7), (g c56 8), (g c56 9), (g c56 10), (g c56 11), (g c56 12)]), (g c55 1)])) (
 fun x c65 => .cells 13 (g c65 0) fun c66 => match x with
 | .normal =>
 .fail
 | .exit i =>
 if i = 0 then
 .op .nonnil [v900] fun v67 =>
 .op (.faddr 3) [v67] fun v68 =>
 .op (.faddr 0) [v68] fun v69 =>
 .load none v69 fun v70 =>
 .op (.len false) [v70] fun v71 =>
 .make 3 48 [(I 0), (S []), .slnil] v71 v71 fun v72 =>
 .cells 1 v72 fun c73 =>
 .op .nonnil [v900] fun v74 =>
 .op (.faddr 3) [v74] fun v75 =>
 .op (.faddr 0) [v75] fun v76 =>
 .load none v76 fun v77 =>
 .mem (.copy 3) [(g c73 0), v77] fun v78 =>
 .op (.len false) [(g c73 0)] fun v79 =>
 .loop 12 [(I 0)] (fun c80 =>
 .op (.int .lss) [(g c80 0), v79] fun v81 =>
 .cnd v81 (
 .op (.eaddr 3) [(g c73 0), (g c80 0)] fun v82 =>
 .op (.faddr 2) [v82] fun v83 =>
 .load none v83 fun v84 =>
 .call 53 [v84] fun v85 =>
 .op (.eaddr 3) [(g c73 0), (g c80 0)] fun v86 =>
 .op (.faddr 2) [v86] fun v87 =>
 .store 1 v87 v85 (
 .op (.int .add) [(g c80 0), (I 1)] fun v88 =>
 .ret .normal [v88])) (
 .ret (.exit 2) [(g c80 0)])) (
 fun x c89 => match x with
 | .normal =>
 .fail
 | .exit i =>
 if i = 2 then
 .cells 13 (.agg [(g c66 0), (g c66 1), (g c66 2), (g c66 3), (g c73 0), (g c66 5), (g c66 6), (g c66 7), (g c66 8), (g c66 9), (g c66 10), (g c66 11), (g c66 12)]) fun c90 =>
 .ret .ret [(.agg [(g c90 0), (g c90 1), (g c90 2), (g c90 3), (g c90 4), (g c90 5), (g c90 6), (g c90 7), (g c90 8), (g c90 9), (g c90 10), (g c90 11), (g c90 12)])]
 else
 .fail
 | .ret =>
 .ret .ret [(.agg [(I 0), (I 0), .slnil, .slnil, .slnil, (I 0), (I 0), ff, ff, (S []), ff, (I 0), ff])])
 else
 .fail
 | .ret =>
 .ret .ret [(.agg [(I 0), (I 0), .slnil, .slnil, .slnil, (I 0), (I 0), ff, ff, (S []), ff, (I 0), ff])]))))))))))))
theorem t17_eq (v900 : AVal) : afun cx 17 [v900] = t17 v900 := by kernel_rfl
def t18 (v900 v901 : AVal) : IT :=
 .cells 13 v900 fun c0 =>
 .cells 13 v901 fun c1 =>
 .op (.len false) [(g c0 2)] fun v2 =>
 .op (.len false) [(g c1 2)] fun v3 =>
 .op (.int .neq) [v2, v3] fun v4 =>
 .cnd v4 (
 .ret .ret [ff]) (
 .call 35 [(g c0 3), (g c1 3)] fun v5 =>
 .op (.un .not) [v5] fun v6 =>
 .cnd v6 (
 .ret .ret [ff]) (
 .call 54 [(g c0 4), (g c1 4)] fun v7 =>
 .op (.un .not) [v7] fun v8 =>
 .cnd v8 (
 .ret .ret [ff]) (
 .loop 4 [ff, (I 0)] (fun c9 =>
 .op (.len false) [(g c0 2)] fun v10 =>
 .op (.int .lss) [(g c9 1), v10] fun v11 =>
 .cnd v11 (
 .op (.eaddr 1) [(g c0 2), (g c9 1)] fun v12 =>
 .load none v12 fun v13 =>
 .op (.eaddr 1) [(g c1 2), (g c9 1)] fun v14 =>
 .load none v14 fun v15 =>
 .op (.int .neq) [v13, v15] fun v16 =>
 .cnd v16 (
 .ret .ret [ff, (g c9 1)]) (
 .op (.int .add) [(g c9 1), (I 1)] fun v17 =>
 .ret .normal [(g c9 0), v17])) (
 .ret (.exit 0) [(g c9 0), (g c9 1)])) (
 fun x c18 => match x with
 | .normal =>
 .fail
 | .exit i =>
 if i = 0 then
 .op (.int .eql) [(g c0 0), (g c1 0)] fun v19 =>
 .cnd v19 (
 .op (.int .eql) [(g c0 1), (g c1 1)] fun v20 =>
 .cnd v20 (
 .op (.int .eql) [(g c0 5), (g c1 5)] fun v21 =>
 .cnd v21 (
 .op (.int .eql) [(g c0 6), (g c1 6)] fun v22 =>
 .cnd v22 (
 .op (.beq false) [(g c0 7), (g c1 7)] fun v23 =>
 .cnd v23 (
 .op (.beq false) [(g c0 8), (g c1 8)] fun v24 =>
 .cnd v24 (
 .op (.str .eql) [(g c0 9), (g c1 9)] fun v25 =>
 .cnd v25 (
 .op (.beq false) [(g c0 10), (g c1 10)] fun v26 =>
 .cnd v26 (
 .op (.int .eql) [(g c0 11), (g c1 11)] fun v27 =>
 .cnd v27 (
 .op (.beq false) [(g c0 12), (g c1 12)] fun v28 =>
 .ret .ret [v28]) (
 .ret .ret [ff])) (
 .ret .ret [ff])) (
 .ret .ret [ff])) (
 .ret .ret [ff])) (
 .ret .ret [ff])) (
 .ret .ret [ff])) (
 .ret .ret [ff])) (
 .ret .ret [ff])) (
 .ret .ret [ff])
 else
 .fail
 | .ret =>
 .ret .ret [(g c18 0)]))))
theorem t18_eq (v900 v901 : AVal) : afun cx 18 [v900, v901] = t18 v900 v901 := by kernel_rfl
def t19 (v900 : AVal) : IT :=
 .op (.peq false) [v900, (.ptr none)] fun v0 =>
 .cnd v0 (
 .ret .ret [(I 0)]) (
 .op .nonnil [v900] fun v1 =>
 .op (.faddr 0) [v1] fun v2 =>
 .load none v2 fun v3 =>
 .op (.len false) [v3] fun v4 =>
 .ret .ret [v4])
theorem t19_eq (v900 : AVal) : afun cx 19 [v900] = t19 v900 := by kernel_rfl
def t20 (v900 : AVal) : IT :=
 .loop 2 [ff, (I 0)] (fun c0 =>
 .op (.len false) [v900] fun v1 =>
 .op (.int .lss) [(g c0 1), v1] fun v2 =>
 .cnd v2 (
 .op (.int .leq) [(g c0 1), (I 20)] fun v3 =>
 .cnd v3 (
 .op (.eaddr 3) [v900, (g c0 1)] fun v4 =>
 .op (.faddr 1) [v4] fun v5 =>
 .load none v5 fun v6 =>
 .op (.len true) [v6] fun v7 =>
 .op (.int .gtr) [v7, (I 400)] fun v8 =>
 .cnd v8 (
 .ret .ret [ff, (g c0 1)]) (
 .op (.eaddr 3) [v900, (g c0 1)] fun v9 =>
 .op (.faddr 2) [v9] fun v10 =>
 .load none v10 fun v11 =>
 .op (.len true) [v11] fun v12 =>
 .op (.int .gtr) [v12, (I 400)] fun v13 =>
 .cnd v13 (
 .ret .ret [ff, (g c0 1)]) (
 .op (.int .add) [(g c0 1), (I 1)] fun v14 =>
 .ret .normal [(g c0 0), v14]))) (
 .ret (.exit 0) [(g c0 0), (g c0 1)])) (
 .ret (.exit 0) [(g c0 0), (g c0 1)])) (
 fun x c15 => match x with
 | .normal =>
 .fail
 | .exit i =>
 if i = 0 then
 .op (.len false) [v900] fun v16 =>
 .op (.int .leq) [v16, (I 20)] fun v17 =>
 .ret .ret [v17]
 else
 .fail
 | .ret =>
 .ret .ret [(g c15 0)])
theorem t20_eq (v900 : AVal) : afun cx 20 [v900] = t20 v900 := by kernel_rfl
def t21 (v900 v901 : AVal) : IT :=
 .cells 12 v901 fun c0 =>
 .call 55 [v900, (.agg [(g c0 0), (g c0 1), (g c0 2), (g c0 3), (g c0 4), (g c0 5), (g c0 6), (g c0 7), (g c0 8), (g c0 9), (g c0 10), (g c0 11)]), (I 1)] fun v1 =>
 .ret .ret [v1]
theorem t21_eq (v900 v901 : AVal) : afun cx 21 [v900, v901] = t21 v900 v901 := by kernel_rfl
def t22 (v900 v901 : AVal) : IT :=
 .op (.mksl 1) [v901] fun v0 =>
 .call 56 [v900, v0] fun v1 =>
 .op (.int .neq) [v1, (I 0)] fun v2 =>
 .cnd v2 (
 .op (.mkagg [(I 0), (I 0), .slnil, (I 0), (I 0), (S []), .slnil, (S []), (S []), (S []), ff, (I 0), (I 0)] []) [] fun v3 =>
 .cells 13 v3 fun c4 =>
 .ret .ret [(.tuple [(.agg [(g c4 0), (g c4 1), (g c4 2), (g c4 3), (g c4 4), (g c4 5), (g c4 6), (g c4 7), (g c4 8), (g c4 9), (g c4 10), (g c4 11), (g c4 12)]), v1])]) (
 .call 43 [v900, v901] fun v5 =>
 .call 57 [v5] fun v6 =>
 .cells 13 v6 fun c7 =>
 .ret .ret [(.tuple [(.agg [(g c7 0), (g c7 1), (g c7 2), (g c7 3), (g c7 4), (g c7 5), (g c7 6), (g c7 7), (g c7 8), (g c7 9), (g c7 10), (g c7 11), (g c7 12)]), (I 0)])])
theorem t22_eq (v900 v901 : AVal) : afun cx 22 [v900, v901] = t22 v900 v901 := by kernel_rfl
def t23 (v900 v901 v902 : AVal) : IT :=
 .cells 12 v901 fun c0 =>
 .call 51 [v900] fun v1 =>
 .op (.un .not) [v1] fun v2 =>
 .cnd v2 (
 .ret .ret [(.tuple [])]) (
 .call 58 [v900, v902] fun v3 =>
 .op (.part 0 none) [v3] fun v4 =>
 .op (.int .neq) [v4, (I 4)] fun v5 =>
 .cnd v5 (
 .ret .ret [(.tuple [])]) (
 .call 58 [v900, v902] fun v6 =>
 .op (.part 6 none) [v6] fun v7 =>
 .op (.len false) [(g c0 8)] fun v8 =>
 .loop 4 [v7, (I 0)] (fun c9 =>
 .op (.int .lss) [(g c9 1), v8] fun v10 =>
 .cnd v10 (
 .op (.eaddr 3) [(g c0 8), (g c9 1)] fun v11 =>
 .load (some 3) v11 fun v12 =>
 .cells 3 v12 fun c13 =>
 .call 59 [(g c9 0), (.func (.func 60) [] [(.rptr [(g c13 0), (g c13 1), (g c13 2)])])] fun v14 =>
 .op (.un .not) [v14] fun v15 =>
 .cnd v15 (
 .op (.faddr 1) [(.rptr [(g c13 0), (g c13 1), (g c13 2)])] fun v16 =>
 .load none v16 fun v17 =>
 .op (.faddr 2) [(.rptr [(g c13 0), (g c13 1), (g c13 2)])] fun v18 =>
 .load none v18 fun v19 =>
 .op (.mkagg [(I 0), (S []), (S [])] [(1, 1), (2, 1)]) [v17, v19] fun v20 =>
 .op (.mksl 3) [v20] fun v21 =>
 .grow 3 40 (g c9 0) v21 fun v22 =>
 .op (.int .add) [(g c9 1), (I 1)] fun v23 =>
 .ret .normal [v22, v23]) (
 .op (.int .add) [(g c9 1), (I 1)] fun v24 =>
 .ret .normal [(g c9 0), v24])) (
 .ret (.exit 0) [(g c9 0), (g c9 1)])) (
 fun x c25 => match x with
 | .normal =>
 .fail
 | .exit i =>
 if i = 0 then
 .op .nonnil [v900] fun v26 =>
 .op (.faddr 0) [v26] fun v27 =>
 .load none v27 fun v28 =>
 .call 61 [v28, v902, (g c25 0)] fun v29 =>
 .ret .ret [(.tuple [])]
 else
 .fail
 | .ret =>
 .ret .ret [(.tuple [])])))
theorem t23_eq (v900 v901 v902 : AVal) : afun cx 23 [v900, v901, v902] = t23 v900 v901 v902 := by kernel_rfl
def t24 (v900 v901 : AVal) : IT :=
 .op (.len false) [v900] fun v0 =>
 .op (.len false) [v901] fun v1 =>
 .op (.int .neq) [v0, v1] fun v2 =>
 .cnd v2 (
 .ret .ret [ff]) (
 .loop 4 [ff, (I 0)] (fun c3 =>
 .op (.len false) [v900] fun v4 =>
 .op (.int .lss) [(g c3 1), v4] fun v5 =>
 .cnd v5 (
 .op (.eaddr 3) [v900, (g c3 1)] fun v6 =>
 .load (some 3) v6 fun v7 =>
 .op (.eaddr 3) [v901, (g c3 1)] fun v8 =>
 .load (some 3) v8 fun v9 =>
 .op (.geq true [.i, .s, .s]) [v7, v9] fun v10 =>
 .cnd v10 (
 .ret .ret [ff, (g c3 1)]) (
 .op (.int .add) [(g c3 1), (I 1)] fun v11 =>
 .ret .normal [(g c3 0), v11])) (
 .ret (.exit 0) [(g c3 0), (g c3 1)])) (
 fun x c12 => match x with
 | .normal =>
 .fail
 | .exit i =>
 if i = 0 then
 .ret .ret [tt]
 else
 .fail
 | .ret =>
 .ret .ret [(g c12 0)]))
theorem t24_eq (v900 v901 : AVal) : afun cx 24 [v900, v901] = t24 v900 v901 := by kernel_rfl
def t25 (v900 v901 : AVal) : IT :=
 .cells 3 v901 fun c0 =>
 .loop 2 [ff, (I 0)] (fun c1 =>
 .op (.len false) [v900] fun v2 =>
 .op (.int .lss) [(g c1 1), v2] fun v3 =>
 .cnd v3 (
 .op (.eaddr 3) [v900, (g c1 1)] fun v4 =>
 .op (.faddr 1) [v4] fun v5 =>
 .load none v5 fun v6 =>
 .op (.str .eql) [v6, (g c0 1)] fun v7 =>
 .cnd v7 (
 .op (.eaddr 3) [v900, (g c1 1)] fun v8 =>
 .op (.faddr 2) [v8] fun v9 =>
 .load none v9 fun v10 =>
 .op (.str .eql) [v10, (g c0 2)] fun v11 =>
 .cnd v11 (
 .op (.int .eql) [(g c0 0), (I 0)] fun v12 =>
 .ret .ret [v12, (g c1 1)]) (
 .ret .ret [ff, (g c1 1)])) (
 .op (.int .add) [(g c1 1), (I 1)] fun v13 =>
 .ret .normal [(g c1 0), v13])) (
 .ret (.exit 0) [(g c1 0), (g c1 1)])) (
 fun x c14 => match x with
 | .normal =>
 .fail
 | .exit i =>
 if i = 0 then
 .ret .ret [ff]
 else
 .fail
 | .ret =>
 .ret .ret [(g c14 0)])
theorem t25_eq (v900 v901 : AVal) : afun cx 25 [v900, v901] = t25 v900 v901 := by kernel_rfl
def t26 (v900 v901 : AVal) : IT :=
 .loop 2 [ff, (I 0)] (fun c0 =>
 .op (.len false) [v900] fun v1 =>
 .op (.int .lss) [(g c0 1), v1] fun v2 =>
 .cnd v2 (
 .op (.int .leq) [(g c0 1), v901] fun v3 =>
 .cnd v3 (
 .op (.eaddr 9) [v900, (g c0 1)] fun v4 =>
 .op (.faddr 1) [v4] fun v5 =>
 .load none v5 fun v6 =>
 .op (.len true) [v6] fun v7 =>
 .op (.int .gtr) [v7, (I 60)] fun v8 =>
 .cnd v8 (
 .ret .ret [ff, (g c0 1)]) (
 .op (.eaddr 9) [v900, (g c0 1)] fun v9 =>
 .op (.faddr 6) [v9] fun v10 =>
 .load none v10 fun v11 =>
 .op (.len true) [v11] fun v12 =>
 .op (.int .gtr) [v12, (I 200)] fun v13 =>
 .cnd v13 (
 .ret .ret [ff, (g c0 1)]) (
 .op (.eaddr 9) [v900, (g c0 1)] fun v14 =>
 .op (.faddr 2) [v14] fun v15 =>
 .load none v15 fun v16 =>
 .call 20 [v16] fun v17 =>
 .op (.un .not) [v17] fun v18 =>
 .cnd v18 (
 .ret .ret [ff, (g c0 1)]) (
 .op (.int .add) [(g c0 1), (I 1)] fun v19 =>
 .ret .normal [(g c0 0), v19])))) (
 .ret (.exit 0) [(g c0 0), (g c0 1)])) (
 .ret (.exit 0) [(g c0 0), (g c0 1)])) (
 fun x c20 => match x with
 | .normal =>
 .fail
 | .exit i =>
 if i = 0 then
 .op (.len false) [v900] fun v21 =>
 .op (.int .leq) [v21, v901] fun v22 =>
 .ret .ret [v22]
 else
 .fail
 | .ret =>
 .ret .ret [(g c20 0)])
theorem t26_eq (v900 v901 : AVal) : afun cx 26 [v900, v901] = t26 v900 v901 := by kernel_rfl
def t27 (v900 v901 : AVal) : IT :=
 .call 51 [v900] fun v0 =>
 .op (.un .not) [v0] fun v1 =>
 .cnd v1 (
 .ret .ret [(.tuple [(I 0), (I 0)])]) (
 .op (.int .eql) [v901, (I 0)] fun v2 =>
 .cnd v2 (
 .op .nonnil [v900] fun v3 =>
 .op (.faddr 2) [v3] fun v4 =>
 .call 62 [v4] fun v5 =>
 .op (.int .eql) [v5, (I 0)] fun v6 =>
 .cnd v6 (
 .op .nonnil [v900] fun v7 =>
 .op (.faddr 1) [v7] fun v8 =>
 .load none v8 fun v9 =>
 .ret .ret [(.tuple [v9, (I 0)])]) (
 .call 28 [v900] fun v10 =>
 .op (.part 0 none) [v10] fun v11 =>
 .call 58 [v900, v11] fun v12 =>
 .cells 13 v12 fun c13 =>
 .op .nonnil [v900] fun v14 =>
 .op (.faddr 15) [v14] fun v15 =>
 .load none v15 fun v16 =>
 .cnd v16 (
 .op (.int .eql) [(g c13 0), (I 4)] fun v17 =>
 .cnd v17 (
 .op (.mkagg [(I 0), (I 0), (S []), ff] [(1, 1), (2, 1)]) [(g c13 4), (g c13 5)] fun v18 =>
 .op (.mksl 1) [(S [116,97,98,108,101]), (S [116,98,111,100,121]), (S [116,102,111,111,116]), (S [116,104,101,97,100]), (S [116,114])] fun v19 =>
 .call 49 [v18, v19] fun v20 =>
 .cnd v20 (
 .call 63 [v900] fun v21 =>
 .op (.ext 0) [v21] fun v22 =>
 .op (.ext 1) [v21] fun v23 =>
 .call 58 [v900, v22] fun v24 =>
 .cells 13 v24 fun c25 =>
 .op (.int .neq) [(g c25 11), (I 0)] fun v26 =>
 .cnd v26 (
 .ret .ret [(.tuple [(g c25 11), (I 0)])]) (
 .ret .ret [(.tuple [v22, v23])])) (
 .call 58 [v900, v11] fun v27 =>
 .cells 13 v27 fun c28 =>
 .op (.int .neq) [(g c28 11), (I 0)] fun v29 =>
 .cnd v29 (
 .ret .ret [(.tuple [(g c28 11), (I 0)])]) (
 .ret .ret [(.tuple [v11, (I 0)])]))) (
 .call 58 [v900, v11] fun v30 =>
 .cells 13 v30 fun c31 =>
 .op (.int .neq) [(g c31 11), (I 0)] fun v32 =>
 .cnd v32 (
 .ret .ret [(.tuple [(g c31 11), (I 0)])]) (
 .ret .ret [(.tuple [v11, (I 0)])]))) (
 .call 58 [v900, v11] fun v33 =>
 .cells 13 v33 fun c34 =>
 .op (.int .neq) [(g c34 11), (I 0)] fun v35 =>
 .cnd v35 (
 .ret .ret [(.tuple [(g c34 11), (I 0)])]) (
 .ret .ret [(.tuple [v11, (I 0)])])))) (
 .call 58 [v900, v901] fun v36 =>
 .cells 13 v36 fun c37 =>
 .op .nonnil [v900] fun v38 =>
 .op (.faddr 15) [v38] fun v39 =>
 .load none v39 fun v40 =>
 .cnd v40 (
 .op (.int .eql) [(g c37 0), (I 4)] fun v41 =>
 .cnd v41 (
 .op (.mkagg [(I 0), (I 0), (S []), ff] [(1, 1), (2, 1)]) [(g c37 4), (g c37 5)] fun v42 =>
 .op (.mksl 1) [(S [116,97,98,108,101]), (S [116,98,111,100,121]), (S [116,102,111,111,116]), (S [116,104,101,97,100]), (S [116,114])] fun v43 =>
 .call 49 [v42, v43] fun v44 =>
 .cnd v44 (
 .call 63 [v900] fun v45 =>
 .op (.ext 0) [v45] fun v46 =>
 .op (.ext 1) [v45] fun v47 =>
 .call 58 [v900, v46] fun v48 =>
 .cells 13 v48 fun c49 =>
 .op (.int .neq) [(g c49 11), (I 0)] fun v50 =>
 .cnd v50 (
 .ret .ret [(.tuple [(g c49 11), (I 0)])]) (
 .ret .ret [(.tuple [v46, v47])])) (
 .call 58 [v900, v901] fun v51 =>
 .cells 13 v51 fun c52 =>
 .op (.int .neq) [(g c52 11), (I 0)] fun v53 =>
 .cnd v53 (
 .ret .ret [(.tuple [(g c52 11), (I 0)])]) (
 .ret .ret [(.tuple [v901, (I 0)])]))) (
 .call 58 [v900, v901] fun v54 =>
 .cells 13 v54 fun c55 =>
 .op (.int .neq) [(g c55 11), (I 0)] fun v56 =>
 .cnd v56 (
 .ret .ret [(.tuple [(g c55 11), (I 0)])]) (
 .ret .ret [(.tuple [v901, (I 0)])]))) (
 .call 58 [v900, v901] fun v57 =>
 .cells 13 v57 fun c58 =>
 .op (.int .neq) [(g c58 11), (I 0)] fun v59 =>
 .cnd v59 (
 .ret .ret [(.tuple [(g c58 11), (I 0)])]) (
 .ret .ret [(.tuple [v901, (I 0)])]))))
theorem t27_eq (v900 v901 : AVal) : afun cx 27 [v900, v901] = t27 v900 v901 := by kernel_rfl
def t28 (v900 : AVal) : IT :=
 .call 51 [v900] fun v0 =>
 .op (.un .not) [v0] fun v1 =>
 .cnd v1 (
 .op (.mkagg [(I 0), (I 0), (S []), ff] []) [] fun v2 =>
 .cells 4 v2 fun c3 =>
 .ret .ret [(.agg [(g c3 0), (g c3 1), (g c3 2), (g c3 3)])]) (
 .op .nonnil [v900] fun v4 =>
 .op (.faddr 2) [v4] fun v5 =>
 .call 64 [v5] fun v6 =>
 .cells 4 v6 fun c7 =>
 .ret .ret [(.agg [(g c7 0), (g c7 1), (g c7 2), (g c7 3)])])
theorem t28_eq (v900 : AVal) : afun cx 28 [v900] = t28 v900 := by kernel_rfl
def t29 (v900 : AVal) : IT :=
 .call 51 [v900] fun v0 =>
 .cnd v0 (
 .op .nonnil [v900] fun v1 =>
 .op (.faddr 9) [v1] fun v2 =>
 .load none v2 fun v3 =>
 .cnd v3 (
 .op .nonnil [v900] fun v4 =>
 .op (.faddr 2) [v4] fun v5 =>
 .call 62 [v5] fun v6 =>
 .op (.int .eql) [v6, (I 1)] fun v7 =>
 .cnd v7 (
 .op .nonnil [v900] fun v8 =>
 .op (.faddr 10) [v8] fun v9 =>
 .load (some 4) v9 fun v10 =>
 .cells 4 v10 fun c11 =>
 .ret .ret [(.agg [(g c11 0), (g c11 1), (g c11 2), (g c11 3)])]) (
 .call 28 [v900] fun v12 =>
 .cells 4 v12 fun c13 =>
 .ret .ret [(.agg [(g c13 0), (g c13 1), (g c13 2), (g c13 3)])])) (
 .call 28 [v900] fun v14 =>
 .cells 4 v14 fun c15 =>
 .ret .ret [(.agg [(g c15 0), (g c15 1), (g c15 2), (g c15 3)])])) (
 .call 28 [v900] fun v16 =>
 .cells 4 v16 fun c17 =>
 .ret .ret [(.agg [(g c17 0), (g c17 1), (g c17 2), (g c17 3)])])
theorem t29_eq (v900 : AVal) : afun cx 29 [v900] = t29 v900 := by kernel_rfl
def t30 (v900 v901 : AVal) : IT :=
 .cells 9 v901 fun c0 =>
 .op (.int .eql) [(g c0 0), (I 1)] fun v1 =>
 .cnd v1 (
 .call 65 [(.agg [(g c0 0), (g c0 1), (g c0 2), (g c0 3), (g c0 4), (g c0 5), (g c0 6), (g c0 7), (g c0 8)])] fun v2 =>
 .call 21 [v900, v2] fun v3 =>
 .op (.mkagg [(I 0), (I 0), (S []), ff] [(0, 1)]) [v3] fun v4 =>
 .cells 4 v4 fun c5 =>
 .ret .ret [(.agg [(g c5 0), (g c5 1), (g c5 2), (g c5 3)])]) (
 .op (.int .eql) [(g c0 0), (I 2)] fun v6 =>
 .cnd v6 (
 .call 65 [(.agg [(g c0 0), (g c0 1), (g c0 2), (g c0 3), (g c0 4), (g c0 5), (g c0 6), (g c0 7), (g c0 8)])] fun v7 =>
 .call 55 [v900, v7, (g c0 3)] fun v8 =>
 .op (.mkagg [(I 0), (I 0), (S []), ff] [(0, 1)]) [v8] fun v9 =>
 .cells 4 v9 fun c10 =>
 .ret .ret [(.agg [(g c10 0), (g c10 1), (g c10 2), (g c10 3)])]) (
 .op (.int .eql) [(g c0 0), (I 3)] fun v11 =>
 .cnd v11 (
 .call 65 [(.agg [(g c0 0), (g c0 1), (g c0 2), (g c0 3), (g c0 4), (g c0 5), (g c0 6), (g c0 7), (g c0 8)])] fun v12 =>
 .call 31 [v900, v12] fun v13 =>
 .op (.mkagg [(I 0), (I 0), (S []), ff] [(0, 1)]) [v13] fun v14 =>
 .cells 4 v14 fun c15 =>
 .ret .ret [(.agg [(g c15 0), (g c15 1), (g c15 2), (g c15 3)])]) (
 .op (.int .eql) [(g c0 0), (I 4)] fun v16 =>
 .cnd v16 (
 .call 32 [v900, (g c0 7)] fun v17 =>
 .op (.mkagg [(I 0), (I 0), (S []), ff] []) [] fun v18 =>
 .cells 4 v18 fun c19 =>
 .ret .ret [(.agg [(g c19 0), (g c19 1), (g c19 2), (g c19 3)])]) (
 .op (.int .eql) [(g c0 0), (I 5)] fun v20 =>
 .cnd v20 (
 .call 66 [v900, (g c0 6), (g c0 4)] fun v21 =>
 .op (.mkagg [(I 0), (I 0), (S []), ff] []) [] fun v22 =>
 .cells 4 v22 fun c23 =>
 .ret .ret [(.agg [(g c23 0), (g c23 1), (g c23 2), (g c23 3)])]) (
 .op (.int .eql) [(g c0 0), (I 6)] fun v24 =>
 .cnd v24 (
 .call 65 [(.agg [(g c0 0), (g c0 1), (g c0 2), (g c0 3), (g c0 4), (g c0 5), (g c0 6), (g c0 7), (g c0 8)])] fun v25 =>
 .call 67 [v900, v25, (g c0 8)] fun v26 =>
 .op (.mkagg [(I 0), (I 0), (S []), ff] []) [] fun v27 =>
 .cells 4 v27 fun c28 =>
 .ret .ret [(.agg [(g c28 0), (g c28 1), (g c28 2), (g c28 3)])]) (
 .op (.int .eql) [(g c0 0), (I 7)] fun v29 =>
 .cnd v29 (
 .call 68 [v900] fun v30 =>
 .op (.mkagg [(I 0), (I 0), (S []), ff] []) [] fun v31 =>
 .cells 4 v31 fun c32 =>
 .ret .ret [(.agg [(g c32 0), (g c32 1), (g c32 2), (g c32 3)])]) (
 .op (.int .eql) [(g c0 0), (I 8)] fun v33 =>
 .cnd v33 (
 .call 69 [v900] fun v34 =>
 .op (.mkagg [(I 0), (I 0), (S []), ff] []) [] fun v35 =>
 .cells 4 v35 fun c36 =>
 .ret .ret [(.agg [(g c36 0), (g c36 1), (g c36 2), (g c36 3)])]) (
 .op (.int .eql) [(g c0 0), (I 9)] fun v37 =>
 .cnd v37 (
 .call 70 [v900, (g c0 1)] fun v38 =>
 .op (.mkagg [(I 0), (I 0), (S []), ff] []) [] fun v39 =>
 .cells 4 v39 fun c40 =>
 .ret .ret [(.agg [(g c40 0), (g c40 1), (g c40 2), (g c40 3)])]) (
 .op (.int .eql) [(g c0 0), (I 10)] fun v41 =>
 .cnd v41 (
 .call 33 [v900, (g c0 1)] fun v42 =>
 .op (.mkagg [(I 0), (I 0), (S []), ff] []) [] fun v43 =>
 .cells 4 v43 fun c44 =>
 .ret .ret [(.agg [(g c44 0), (g c44 1), (g c44 2), (g c44 3)])]) (
 .op (.int .eql) [(g c0 0), (I 11)] fun v45 =>
 .cnd v45 (
 .call 50 [v900] fun v46 =>
 .op (.mkagg [(I 0), (I 0), (S []), ff] []) [] fun v47 =>
 .cells 4 v47 fun c48 =>
 .ret .ret [(.agg [(g c48 0), (g c48 1), (g c48 2), (g c48 3)])]) (
 .op (.int .eql) [(g c0 0), (I 12)] fun v49 =>
 .cnd v49 (
 .call 65 [(.agg [(g c0 0), (g c0 1), (g c0 2), (g c0 3), (g c0 4), (g c0 5), (g c0 6), (g c0 7), (g c0 8)])] fun v50 =>
 .call 23 [v900, v50, (g c0 4)] fun v51 =>
 .op (.mkagg [(I 0), (I 0), (S []), ff] []) [] fun v52 =>
 .cells 4 v52 fun c53 =>
 .ret .ret [(.agg [(g c53 0), (g c53 1), (g c53 2), (g c53 3)])]) (
 .op (.int .eql) [(g c0 0), (I 13)] fun v54 =>
 .cnd v54 (
 .call 71 [v900] fun v55 =>
 .op (.mkagg [(I 0), (I 0), (S []), ff] []) [] fun v56 =>
 .cells 4 v56 fun c57 =>
 .ret .ret [(.agg [(g c57 0), (g c57 1), (g c57 2), (g c57 3)])]) (
 .op (.int .eql) [(g c0 0), (I 14)] fun v58 =>
 .cnd v58 (
 .call 72 [v900] fun v59 =>
 .op (.mkagg [(I 0), (I 0), (S []), ff] []) [] fun v60 =>
 .cells 4 v60 fun c61 =>
 .ret .ret [(.agg [(g c61 0), (g c61 1), (g c61 2), (g c61 3)])]) (
 .op (.int .eql) [(g c0 0), (I 15)] fun v62 =>
 .cnd v62 (
 .op .nonnil [v900] fun v63 =>
 .op (.faddr 15) [v63] fun v64 =>
 .store 1 v64 (g c0 5) (
 .op (.mkagg [(I 0), (I 0), (S []), ff] []) [] fun v65 =>
 .cells 4 v65 fun c66 =>
 .ret .ret [(.agg [(g c66 0), (g c66 1), (g c66 2), (g c66 3)])])) (
 .op (.int .eql) [(g c0 0), (I 16)] fun v67 =>
 .cnd v67 (
 .op .nonnil [v900] fun v68 =>
 .op (.faddr 6) [v68] fun v69 =>
 .load none v69 fun v70 =>
 .op (.append 1 8) [.slnil, v70] fun v71 =>
 .op (.mksl 1) [(g c0 8)] fun v72 =>
 .op (.append 1 8) [v71, v72] fun v73 =>
 .op .nonnil [v900] fun v74 =>
 .op (.faddr 6) [v74] fun v75 =>
 .store 1 v75 v73 (
 .op (.mkagg [(I 0), (I 0), (S []), ff] []) [] fun v76 =>
 .cells 4 v76 fun c77 =>
 .ret .ret [(.agg [(g c77 0), (g c77 1), (g c77 2), (g c77 3)])])) (
 .op (.int .eql) [(g c0 0), (I 17)] fun v78 =>
 .cnd v78 (
 .op .nonnil [v900] fun v79 =>
 .op (.faddr 3) [v79] fun v80 =>
 .call 73 [v80] fun v81 =>
 .op (.mkagg [(I 0), (I 0), (S []), ff] []) [] fun v82 =>
 .cells 4 v82 fun c83 =>
 .ret .ret [(.agg [(g c83 0), (g c83 1), (g c83 2), (g c83 3)])]) (
 .op (.int .eql) [(g c0 0), (I 18)] fun v84 =>
 .cnd v84 (
 .op .nonnil [v900] fun v85 =>
 .op (.faddr 2) [v85] fun v86 =>
 .call 74 [v86] fun v87 =>
 .call 11 [v87] fun v88 =>
 .cells 4 v88 fun c89 =>
 .ret .ret [(.agg [(g c89 0), (g c89 1), (g c89 2), (g c89 3)])]) (
 .op (.int .eql) [(g c0 0), (I 19)] fun v90 =>
 .cnd v90 (
 .op .nonnil [v900] fun v91 =>
 .op (.faddr 7) [v91] fun v92 =>
 .store 1 v92 (g c0 4) (
 .op (.mkagg [(I 0), (I 0), (S []), ff] []) [] fun v93 =>
 .cells 4 v93 fun c94 =>
 .ret .ret [(.agg [(g c94 0), (g c94 1), (g c94 2), (g c94 3)])])) (
 .op (.int .eql) [(g c0 0), (I 20)] fun v95 =>
 .cnd v95 (
 .op .nonnil [v900] fun v96 =>
 .op (.faddr 4) [v96] fun v97 =>
 .store 1 v97 (g c0 8) (
 .op (.mkagg [(I 0), (I 0), (S []), ff] []) [] fun v98 =>
 .cells 4 v98 fun c99 =>
 .ret .ret [(.agg [(g c99 0), (g c99 1), (g c99 2), (g c99 3)])])) (
 .op (.int .eql) [(g c0 0), (I 21)] fun v100 =>
 .cnd v100 (
 .op .nonnil [v900] fun v101 =>
 .op (.faddr 3) [v101] fun v102 =>
 .call 75 [v102] fun v103 =>
 .op (.mkagg [(I 0), (I 0), (S []), ff] []) [] fun v104 =>
 .cells 4 v104 fun c105 =>
 .ret .ret [(.agg [(g c105 0), (g c105 1), (g c105 2), (g c105 3)])]) (
 .op (.int .eql) [(g c0 0), (I 22)] fun v106 =>
 .cnd v106 (
 .op .nonnil [v900] fun v107 =>
 .op (.faddr 2) [v107] fun v108 =>
 .op (.mksl 1) [(g c0 1)] fun v109 =>
 .call 76 [v108, v109] fun v110 =>
 .op (.mkagg [(I 0), (I 0), (S []), ff] []) [] fun v111 =>
 .cells 4 v111 fun c112 =>
 .ret .ret [(.agg [(g c112 0), (g c112 1), (g c112 2), (g c112 3)])]) (
 .op (.int .eql) [(g c0 0), (I 23)] fun v113 =>
 .cnd v113 (
 .op .nonnil [v900] fun v114 =>
 .op (.faddr 8) [v114] fun v115 =>
 .store 1 v115 (g c0 4) (
 .op (.mkagg [(I 0), (I 0), (S []), ff] []) [] fun v116 =>
 .cells 4 v116 fun c117 =>
 .ret .ret [(.agg [(g c117 0), (g c117 1), (g c117 2), (g c117 3)])])) (
 .op (.int .eql) [(g c0 0), (I 24)] fun v118 =>
 .cnd v118 (
 .call 65 [(.agg [(g c0 0), (g c0 1), (g c0 2), (g c0 3), (g c0 4), (g c0 5), (g c0 6), (g c0 7), (g c0 8)])] fun v119 =>
 .call 45 [v900, v119, (g c0 3), (g c0 4)] fun v120 =>
 .call 11 [v120] fun v121 =>
 .cells 4 v121 fun c122 =>
 .ret .ret [(.agg [(g c122 0), (g c122 1), (g c122 2), (g c122 3)])]) (
 .op (.mkagg [(I 0), (I 0), (S []), ff] []) [] fun v123 =>
 .cells 4 v123 fun c124 =>
 .ret .ret [(.agg [(g c124 0), (g c124 1), (g c124 2), (g c124 3)])]))))))))))))))))))))))))
theorem t30_eq (v900 v901 : AVal) : afun cx 30 [v900, v901] = t30 v900 v901 := by kernel_rfl
def t31 (v900 v901 : AVal) : IT :=
 .cells 12 v901 fun c0 =>
 .call 21 [v900, (.agg [(g c0 0), (g c0 1), (g c0 2), (g c0 3), (g c0 4), (g c0 5), (g c0 6), (g c0 7), (g c0 8), (g c0 9), (g c0 10), (g c0 11)])] fun v1 =>
 .op (.int .neq) [v1, (I 0)] fun v2 =>
 .cnd v2 (
 .op .nonnil [v900] fun v3 =>
 .op (.faddr 3) [v3] fun v4 =>
 .op (.mkagg [(I 0), (S []), .slnil] [(0, 1), (1, 1), (2, 1)]) [v1, (g c0 1), (g c0 8)] fun v5 =>
 .call 77 [v4, v5] fun v6 =>
 .ret .ret [v1]) (
 .ret .ret [v1])
theorem t31_eq (v900 v901 : AVal) : afun cx 31 [v900, v901] = t31 v900 v901 := by kernel_rfl
def t32 (v900 v901 : AVal) : IT :=
 .call 51 [v900] fun v0 =>
 .op (.un .not) [v0] fun v1 =>
 .cnd v1 (
 .ret .ret [(.tuple [])]) (
 .call 27 [v900, (I 0)] fun v2 =>
 .op (.ext 0) [v2] fun v3 =>
 .op (.ext 1) [v2] fun v4 =>
 .call 58 [v900, v3] fun v5 =>
 .cells 13 v5 fun c6 =>
 .op (.int .neq) [(g c6 0), (I 4)] fun v7 =>
 .cnd v7 (
 .op (.int .neq) [(g c6 0), (I 2)] fun v8 =>
 .cnd v8 (
 .ret .ret [(.tuple [])]) (
 .op (.len false) [(g c6 2)] fun v9 =>
 .op (.int .neq) [v4, (I 0)] fun v10 =>
 .cnd v10 (
 .call 78 [(g c6 2), v4] fun v11 =>
 .call 79 [.slnil, v901] fun v12 =>
 .frz v12 fun v13 =>
 .op .b2s [v13] fun v14 =>
 .op (.int .gtr) [v11, (I 0)] fun v15 =>
 .cnd v15 (
 .op (.int .sub) [v11, (I 1)] fun v16 =>
 .op (.eaddr 1) [(g c6 2), v16] fun v17 =>
 .load none v17 fun v18 =>
 .call 58 [v900, v18] fun v19 =>
 .cells 13 v19 fun c20 =>
 .op (.int .eql) [(g c20 0), (I 5)] fun v21 =>
 .cnd v21 (
 .op .nonnil [v900] fun v22 =>
 .op (.faddr 0) [v22] fun v23 =>
 .load none v23 fun v24 =>
 .op (.int .sub) [v11, (I 1)] fun v25 =>
 .op (.eaddr 1) [(g c6 2), v25] fun v26 =>
 .load none v26 fun v27 =>
 .op (.str .add) [(g c20 7), v14] fun v28 =>
 .call 80 [v24, v27, v28] fun v29 =>
 .ret .ret [(.tuple [])]) (
 .op .nonnil [v900] fun v30 =>
 .op (.faddr 0) [v30] fun v31 =>
 .load none v31 fun v32 =>
 .call 81 [v32, (g c6 3), v14] fun v33 =>
 .op (.ext 0) [v33] fun v34 =>
 .op (.ext 1) [v33] fun v35 =>
 .op (.int .eql) [v35, (I 0)] fun v36 =>
 .cnd v36 (
 .call 46 [v900, v34, v3, v4] fun v37 =>
 .ret .ret [(.tuple [])]) (
 .ret .ret [(.tuple [])]))) (
 .op .nonnil [v900] fun v38 =>
 .op (.faddr 0) [v38] fun v39 =>
 .load none v39 fun v40 =>
 .call 81 [v40, (g c6 3), v14] fun v41 =>
 .op (.ext 0) [v41] fun v42 =>
 .op (.ext 1) [v41] fun v43 =>
 .op (.int .eql) [v43, (I 0)] fun v44 =>
 .cnd v44 (
 .call 46 [v900, v42, v3, v4] fun v45 =>
 .ret .ret [(.tuple [])]) (
 .ret .ret [(.tuple [])]))) (
 .call 79 [.slnil, v901] fun v46 =>
 .frz v46 fun v47 =>
 .op .b2s [v47] fun v48 =>
 .op (.int .gtr) [v9, (I 0)] fun v49 =>
 .cnd v49 (
 .op (.int .sub) [v9, (I 1)] fun v50 =>
 .op (.eaddr 1) [(g c6 2), v50] fun v51 =>
 .load none v51 fun v52 =>
 .call 58 [v900, v52] fun v53 =>
 .cells 13 v53 fun c54 =>
 .op (.int .eql) [(g c54 0), (I 5)] fun v55 =>
 .cnd v55 (
 .op .nonnil [v900] fun v56 =>
 .op (.faddr 0) [v56] fun v57 =>
 .load none v57 fun v58 =>
 .op (.int .sub) [v9, (I 1)] fun v59 =>
 .op (.eaddr 1) [(g c6 2), v59] fun v60 =>
 .load none v60 fun v61 =>
 .op (.str .add) [(g c54 7), v48] fun v62 =>
 .call 80 [v58, v61, v62] fun v63 =>
 .ret .ret [(.tuple [])]) (
 .op .nonnil [v900] fun v64 =>
 .op (.faddr 0) [v64] fun v65 =>
 .load none v65 fun v66 =>
 .call 81 [v66, (g c6 3), v48] fun v67 =>
 .op (.ext 0) [v67] fun v68 =>
 .op (.ext 1) [v67] fun v69 =>
 .op (.int .eql) [v69, (I 0)] fun v70 =>
 .cnd v70 (
 .call 46 [v900, v68, v3, v4] fun v71 =>
 .ret .ret [(.tuple [])]) (
 .ret .ret [(.tuple [])]))) (
 .op .nonnil [v900] fun v72 =>
 .op (.faddr 0) [v72] fun v73 =>
 .load none v73 fun v74 =>
 .call 81 [v74, (g c6 3), v48] fun v75 =>
 .op (.ext 0) [v75] fun v76 =>
 .op (.ext 1) [v75] fun v77 =>
 .op (.int .eql) [v77, (I 0)] fun v78 =>
 .cnd v78 (
 .call 46 [v900, v76, v3, v4] fun v79 =>
 .ret .ret [(.tuple [])]) (
 .ret .ret [(.tuple [])]))))) (
 .op (.len false) [(g c6 2)] fun v80 =>
 .op (.int .neq) [v4, (I 0)] fun v81 =>
 .cnd v81 (
 .call 78 [(g c6 2), v4] fun v82 =>
 .call 79 [.slnil, v901] fun v83 =>
 .frz v83 fun v84 =>
 .op .b2s [v84] fun v85 =>
 .op (.int .gtr) [v82, (I 0)] fun v86 =>
 .cnd v86 (
 .op (.int .sub) [v82, (I 1)] fun v87 =>
 .op (.eaddr 1) [(g c6 2), v87] fun v88 =>
 .load none v88 fun v89 =>
 .call 58 [v900, v89] fun v90 =>
 .cells 13 v90 fun c91 =>
 .op (.int .eql) [(g c91 0), (I 5)] fun v92 =>
 .cnd v92 (
 .op .nonnil [v900] fun v93 =>
 .op (.faddr 0) [v93] fun v94 =>
 .load none v94 fun v95 =>
 .op (.int .sub) [v82, (I 1)] fun v96 =>
 .op (.eaddr 1) [(g c6 2), v96] fun v97 =>
 .load none v97 fun v98 =>
 .op (.str .add) [(g c91 7), v85] fun v99 =>
 .call 80 [v95, v98, v99] fun v100 =>
 .ret .ret [(.tuple [])]) (
 .op .nonnil [v900] fun v101 =>
 .op (.faddr 0) [v101] fun v102 =>
 .load none v102 fun v103 =>
 .call 81 [v103, (g c6 3), v85] fun v104 =>
 .op (.ext 0) [v104] fun v105 =>
 .op (.ext 1) [v104] fun v106 =>
 .op (.int .eql) [v106, (I 0)] fun v107 =>
 .cnd v107 (
 .call 46 [v900, v105, v3, v4] fun v108 =>
 .ret .ret [(.tuple [])]) (
 .ret .ret [(.tuple [])]))) (
 .op .nonnil [v900] fun v109 =>
 .op (.faddr 0) [v109] fun v110 =>
 .load none v110 fun v111 =>
 .call 81 [v111, (g c6 3), v85] fun v112 =>
 .op (.ext 0) [v112] fun v113 =>
 .op (.ext 1) [v112] fun v114 =>
 .op (.int .eql) [v114, (I 0)] fun v115 =>
 .cnd v115 (
 .call 46 [v900, v113, v3, v4] fun v116 =>
 .ret .ret [(.tuple [])]) (
 .ret .ret [(.tuple [])]))) (
 .call 79 [.slnil, v901] fun v117 =>
 .frz v117 fun v118 =>
 .op .b2s [v118] fun v119 =>
 .op (.int .gtr) [v80, (I 0)] fun v120 =>
 .cnd v120 (
 .op (.int .sub) [v80, (I 1)] fun v121 =>
 .op (.eaddr 1) [(g c6 2), v121] fun v122 =>
 .load none v122 fun v123 =>
 .call 58 [v900, v123] fun v124 =>
 .cells 13 v124 fun c125 =>
 .op (.int .eql) [(g c125 0), (I 5)] fun v126 =>
 .cnd v126 (
 .op .nonnil [v900] fun v127 =>
 .op (.faddr 0) [v127] fun v128 =>
 .load none v128 fun v129 =>
 .op (.int .sub) [v80, (I 1)] fun v130 =>
 .op (.eaddr 1) [(g c6 2), v130] fun v131 =>
 .load none v131 fun v132 =>
 .op (.str .add) [(g c125 7), v119] fun v133 =>
 .call 80 [v129, v132, v133] fun v134 =>
 .ret .ret [(.tuple [])]) (
 .op .nonnil [v900] fun v135 =>
 .op (.faddr 0) [v135] fun v136 =>
 .load none v136 fun v137 =>
 .call 81 [v137, (g c6 3), v119] fun v138 =>
 .op (.ext 0) [v138] fun v139 =>
 .op (.ext 1) [v138] fun v140 =>
 .op (.int .eql) [v140, (I 0)] fun v141 =>
 .cnd v141 (
 .call 46 [v900, v139, v3, v4] fun v142 =>
 .ret .ret [(.tuple [])]) (
 .ret .ret [(.tuple [])]))) (
 .op .nonnil [v900] fun v143 =>
 .op (.faddr 0) [v143] fun v144 =>
 .load none v144 fun v145 =>
 .call 81 [v145, (g c6 3), v119] fun v146 =>
 .op (.ext 0) [v146] fun v147 =>
 .op (.ext 1) [v146] fun v148 =>
 .op (.int .eql) [v148, (I 0)] fun v149 =>
 .cnd v149 (
 .call 46 [v900, v147, v3, v4] fun v150 =>
 .ret .ret [(.tuple [])]) (
 .ret .ret [(.tuple [])])))))
theorem t32_eq (v900 v901 : AVal) : afun cx 32 [v900, v901] = t32 v900 v901 := by kernel_rfl
def t33 (v900 v901 : AVal) : IT :=
 .call 51 [v900] fun v0 =>
 .op (.un .not) [v0] fun v1 =>
 .cnd v1 (
 .ret .ret [(.tuple [])]) (
 .call 28 [v900] fun v2 =>
 .cells 4 v2 fun c3 =>
 .op (.mksl 1) [v901] fun v4 =>
 .call 49 [(.agg [(g c3 0), (g c3 1), (g c3 2), (g c3 3)]), v4] fun v5 =>
 .cnd v5 (
 .op .nonnil [v900] fun v6 =>
 .op (.faddr 3) [v6] fun v7 =>
 .call 82 [v7, (g c3 0)] fun v8 =>
 .op (.int .lss) [v8, (I 0)] fun v9 =>
 .cnd v9 (
 .op .nonnil [v900] fun v10 =>
 .op (.faddr 2) [v10] fun v11 =>
 .call 74 [v11] fun v12 =>
 .ret .ret [(.tuple [])]) (
 .loop 5 [(I 0)] (fun c13 =>
 .op (.int .lss) [(g c13 0), (I 8)] fun v14 =>
 .cnd v14 (
 .call 83 [v900, v901] fun v15 =>
 .op (.un .not) [v15] fun v16 =>
 .cnd v16 (
 .ret .ret [(g c13 0)]) (
 .op (.int .add) [(g c13 0), (I 1)] fun v17 =>
 .ret .normal [v17])) (
 .ret (.exit 0) [(g c13 0)])) (
 fun x c18 => match x with
 | .normal =>
 .fail
 | .exit i =>
 if i = 0 then
 .ret .ret [(.tuple [])]
 else
 .fail
 | .ret =>
 .ret .ret [(.tuple [])]))) (
 .loop 5 [(I 0)] (fun c19 =>
 .op (.int .lss) [(g c19 0), (I 8)] fun v20 =>
 .cnd v20 (
 .call 83 [v900, v901] fun v21 =>
 .op (.un .not) [v21] fun v22 =>
 .cnd v22 (
 .ret .ret [(g c19 0)]) (
 .op (.int .add) [(g c19 0), (I 1)] fun v23 =>
 .ret .normal [v23])) (
 .ret (.exit 0) [(g c19 0)])) (
 fun x c24 => match x with
 | .normal =>
 .fail
 | .exit i =>
 if i = 0 then
 .ret .ret [(.tuple [])]
 else
 .fail
 | .ret =>
 .ret .ret [(.tuple [])])))
theorem t33_eq (v900 v901 : AVal) : afun cx 33 [v900, v901] = t33 v900 v901 := by kernel_rfl
def t35 (v900 v901 : AVal) : IT :=
 .op (.len false) [v900] fun v0 =>
 .op (.len false) [v901] fun v1 =>
 .op (.int .neq) [v0, v1] fun v2 =>
 .cnd v2 (
 .ret .ret [ff]) (
 .loop 4 [ff, (I 0)] (fun c3 =>
 .op (.len false) [v900] fun v4 =>
 .op (.int .lss) [(g c3 1), v4] fun v5 =>
 .cnd v5 (
 .op (.eaddr 1) [v900, (g c3 1)] fun v6 =>
 .load none v6 fun v7 =>
 .op (.eaddr 1) [v901, (g c3 1)] fun v8 =>
 .load none v8 fun v9 =>
 .op (.int .neq) [v7, v9] fun v10 =>
 .cnd v10 (
 .ret .ret [ff, (g c3 1)]) (
 .op (.int .add) [(g c3 1), (I 1)] fun v11 =>
 .ret .normal [(g c3 0), v11])) (
 .ret (.exit 0) [(g c3 0), (g c3 1)])) (
 fun x c12 => match x with
 | .normal =>
 .fail
 | .exit i =>
 if i = 0 then
 .ret .ret [tt]
 else
 .fail
 | .ret =>
 .ret .ret [(g c12 0)]))
theorem t35_eq (v900 v901 : AVal) : afun cx 35 [v900, v901] = t35 v900 v901 := by kernel_rfl
def t37 (v900 v901 : AVal) : IT :=
 .op .nonnil [v900] fun v0 =>
 .op (.faddr 0) [v0] fun v1 =>
 .load none v1 fun v2 =>
 .op (.len false) [v2] fun v3 =>
 .op (.mkagg [(I 0), (I 0), .slnil, (I 0), (I 0), (S []), .slnil, (S []), (S []), (S []), ff, (I 0), (I 0)] [(0, 1), (3, 1), (10, 1)]) [(I 1), v3, v901] fun v4 =>
 .call 87 [v900, v4] fun v5 =>
 .ret .ret [v5]
theorem t37_eq (v900 v901 : AVal) : afun cx 37 [v900, v901] = t37 v900 v901 := by kernel_rfl
def t38 (v900 v901 v902 : AVal) : IT :=
 .cells 5 v902 fun c0 =>
 .call 39 [v900, v901] fun v1 =>
 .op (.peq false) [v1, (.ptr none)] fun v2 =>
 .cnd v2 (
 .ret .ret [(.ptr none)]) (
 .call 88 [v900, v901, (I 1), (S [104,116,109,108]), .slnil] fun v3 =>
 .op (.ext 0) [v3] fun v4 =>
 .op (.ext 1) [v3] fun v5 =>
 .call 89 [v1, v901, v4, (I 0)] fun v6 =>
 .op (.mkagg [(I 0), (I 0), (S []), ff] [(0, 1), (1, 1), (2, 1)]) [v4, (I 1), (S [104,116,109,108])] fun v7 =>
 .op (.mksl 4) [v7] fun v8 =>
 .op .nonnil [v1] fun v9 =>
 .op (.faddr 2) [v9] fun v10 =>
 .store 1 v10 v8 (
 .op .nonnil [v1] fun v11 =>
 .op (.faddr 9) [v11] fun v12 =>
 .store 1 v12 tt (
 .call 90 [(g c0 0), (g c0 1), (g c0 2)] fun v13 =>
 .op (.mkagg [(I 0), (I 0), (S []), ff] [(1, 1), (2, 1), (3, 1)]) [(g c0 0), (g c0 1), v13] fun v14 =>
 .op .nonnil [v1] fun v15 =>
 .op (.faddr 10) [v15] fun v16 =>
 .store 4 v16 v14 (
 .op (.int .eql) [(g c0 0), (I 1)] fun v17 =>
 .cnd v17 (
 .op (.str .eql) [(g c0 1), (S [116,101,109,112,108,97,116,101])] fun v18 =>
 .cnd v18 (
 .op (.mksl 1) [(I 18)] fun v19 =>
 .op .nonnil [v1] fun v20 =>
 .op (.faddr 6) [v20] fun v21 =>
 .store 1 v21 v19 (
 .call 91 [v1] fun v22 =>
 .cnd (g c0 4) (
 .op .nonnil [v1] fun v23 =>
 .op (.faddr 8) [v23] fun v24 =>
 .store 1 v24 (I (-1)) (
 .ret .ret [v1])) (
 .ret .ret [v1]))) (
 .call 91 [v1] fun v25 =>
 .cnd (g c0 4) (
 .op .nonnil [v1] fun v26 =>
 .op (.faddr 8) [v26] fun v27 =>
 .store 1 v27 (I (-1)) (
 .ret .ret [v1])) (
 .ret .ret [v1]))) (
 .call 91 [v1] fun v28 =>
 .cnd (g c0 4) (
 .op .nonnil [v1] fun v29 =>
 .op (.faddr 8) [v29] fun v30 =>
 .store 1 v30 (I (-1)) (
 .ret .ret [v1])) (
 .ret .ret [v1]))))))
theorem t38_eq (v900 v901 v902 : AVal) : afun cx 38 [v900, v901, v902] = t38 v900 v901 v902 := by kernel_rfl
def t39 (v900 v901 : AVal) : IT :=
 .call 92 [v900, v901] fun v0 =>
 .op (.int .neq) [v0, (I 0)] fun v1 =>
 .cnd v1 (
 .ret .ret [(.ptr none)]) (
 .op (.mkagg [(.ptr none), (I 0), .slnil, .slnil, (I 0), (I 0), .slnil, (I 0), (I 0), ff, (I 0), (I 0), (S []), ff, ff, ff, (S []), ff, (I 0), ff] [(0, 1), (1, 1), (4, 1), (14, 1)]) [v900, v901, (I 1), tt] fun v2 =>
 .alloc 20 v2 fun v3 =>
 .ret .ret [v3])
theorem t39_eq (v900 v901 : AVal) : afun cx 39 [v900, v901] = t39 v900 v901 := by kernel_rfl
def t40 (v900 : AVal) : IT :=
 .op .nonnil [v900] fun v0 =>
 .op (.faddr 4) [v0] fun v1 =>
 .load none v1 fun v2 =>
 .op .nonnil [v900] fun v3 =>
 .op (.faddr 5) [v3] fun v4 =>
 .load none v4 fun v5 =>
 .op .nonnil [v900] fun v6 =>
 .op (.faddr 6) [v6] fun v7 =>
 .load none v7 fun v8 =>
 .op (.append 1 8) [.slnil, v8] fun v9 =>
 .op .nonnil [v900] fun v10 =>
 .op (.faddr 7) [v10] fun v11 =>
 .load none v11 fun v12 =>
 .op .nonnil [v900] fun v13 =>
 .op (.faddr 8) [v13] fun v14 =>
 .load none v14 fun v15 =>
 .op .nonnil [v900] fun v16 =>
 .op (.faddr 14) [v16] fun v17 =>
 .load none v17 fun v18 =>
 .op .nonnil [v900] fun v19 =>
 .op (.faddr 15) [v19] fun v20 =>
 .load none v20 fun v21 =>
 .op .nonnil [v900] fun v22 =>
 .op (.faddr 16) [v22] fun v23 =>
 .load none v23 fun v24 =>
 .op .nonnil [v900] fun v25 =>
 .op (.faddr 17) [v25] fun v26 =>
 .load none v26 fun v27 =>
 .op .nonnil [v900] fun v28 =>
 .op (.faddr 18) [v28] fun v29 =>
 .load none v29 fun v30 =>
 .op .nonnil [v900] fun v31 =>
 .op (.faddr 19) [v31] fun v32 =>
 .load none v32 fun v33 =>
 .op (.mkagg [(I 0), (I 0), .slnil, .slnil, .slnil, (I 0), (I 0), ff, ff, (S []), ff, (I 0), ff] [(0, 1), (1, 1), (2, 1), (5, 1), (6, 1), (7, 1), (8, 1), (9, 1), (10, 1), (11, 1), (12, 1)]) [v2, v5, v9, v12, v15, v18, v21, v24, v27, v30, v33] fun v34 =>
 .cells 13 v34 fun c35 =>
 .loop 3 [(.agg [(g c35 0), (g c35 1), (g c35 2), (g c35 3), (g c35 4), (g c35 5), (g c35 6), (g c35 7), (g c35 8), (g c35 9), (g c35 10), (g c35 11), (g c35 12)]), (I 0)] (fun c36 =>
 .cells 13 (g c36 0) fun c37 =>
 .op .nonnil [v900] fun v38 =>
 .op (.faddr 2) [v38] fun v39 =>
 .load none v39 fun v40 =>
 .op (.len false) [v40] fun v41 =>
 .op (.int .lss) [(g c36 1), v41] fun v42 =>
 .cnd v42 (
 .op .nonnil [v900] fun v43 =>
 .op (.faddr 2) [v43] fun v44 =>
 .load none v44 fun v45 =>
 .op (.eaddr 4) [v45, (g c36 1)] fun v46 =>
 .op (.faddr 0) [v46] fun v47 =>
 .load none v47 fun v48 =>
 .op (.mksl 1) [v48] fun v49 =>
 .grow 1 8 (g c37 3) v49 fun v50 =>
 .cells 1 v50 fun c51 =>
 .op (.int .add) [(g c36 1), (I 1)] fun v52 =>
 .ret .normal [(.agg [(g c37 0), (g c37 1), (g c37 2), (g c51 0), (g c37 4), (g c37 5), (g c37 6), (g c37 7), (g c37 8), (g c37 9), (g c37 10), (g c37 11), (g c37 12)]), v52]) (
 .ret (.exit 0) [(.agg [(g c37 0), (g c37 1), (g c37 2), (g c37 3), (g c37 4), (g c37 5), (g c37 6), (g c37 7), (g c37 8), (g c37 9), (g c37 10), (g c37 11), (g c37 12)]), (g c36 1)])) (
 fun x c53 => .cells 13 (g c53 0) fun c54 => match x with
 | .normal =>
 .fail
 | .exit i =>
 if i = 0 then
 .loop 7 [(.agg [(g c54 0), (g c54 1), (g c54 2), (g c54 3), (g c54 4), (g c54 5), (g c54 6), (g c54 7), (g c54 8), (g c54 9), (g c54 10), (g c54 11), (g c54 12)]), (I 0)] (fun c55 =>
 .cells 13 (g c55 0) fun c56 =>
 .op .nonnil [v900] fun v57 =>
 .op (.faddr 3) [v57] fun v58 =>
 .load none v58 fun v59 =>
 .op (.len false) [v59] fun v60 =>
 .op (.int .lss) [(g c55 1), v60] fun v61 =>
 .cnd v61 (
 .op .nonnil [v900] fun v62 =>
 .op (.faddr 3) [v62] fun v63 =>
 .load none v63 fun v64 =>
 .op (.eaddr 3) [v64, (g c55 1)] fun v65 =>
 .load (some 3) v65 fun v66 =>
 .cells 3 v66 fun c67 =>
 .op (.append 3 40) [.slnil, (g c67 2)] fun v68 =>
 .op (.mkagg [(I 0), (S []), .slnil] [(0, 1), (1, 1), (2, 1)]) [(g c67 0), (g c67 1), v68] fun v69 =>
 .op (.mksl 3) [v69] fun v70 =>
 .grow 3 48 (g c56 4) v70 fun v71 =>
 .cells 1 v71 fun c72 =>
 .op (.int .add) [(g c55 1), (I 1)] fun v73 =>
 .ret .normal [(.agg [(g c56 0), (g c56 1), (g c56 2), (g c56 3), (g c72 0), (g c56 5), (g c56 6), (g c56 7), (g c56 8), (g c56 9), (g c56 10), (g c56 11), (g c56 12)]), v73]) (
 .ret (.exit 2) [(.agg [(g c56 0), (g c56 1), (g c56 2), (g c56 3), (g c56 4), (g c56 5), (g c56 6), (g c56 7), (g c56 8), (g c56 9), (g c56 10), (g c56 11), (g c56 12)]), (g c55 1)])) (
 fun x c74 => .cells 13 (g c74 0) fun c75 => match x with
 | .normal =>
 .fail
 | .exit i =>
 if i = 2 then
 .cells 13 (.agg [(g c75 0), (g c75 1), (g c75 2), (g c75 3), (g c75 4), (g c75 5), (g c75 6), (g c75 7), (g c75 8), (g c75 9), (g c75 10), (g c75 11), (g c75 12)]) fun c76 =>
 .ret .ret [(.agg [(g c76 0), (g c76 1), (g c76 2), (g c76 3), (g c76 4), (g c76 5), (g c76 6), (g c76 7), (g c76 8), (g c76 9), (g c76 10), (g c76 11), (g c76 12)])]
 else
 .fail
 | .ret =>
 .ret .ret [(.agg [(I 0), (I 0), .slnil, .slnil, .slnil, (I 0), (I 0), ff, ff, (S []), ff, (I 0), ff])])
 else
 .fail
 | .ret =>
 .ret .ret [(.agg [(I 0), (I 0), .slnil, .slnil, .slnil, (I 0), (I 0), ff, ff, (S []), ff, (I 0), ff])])
theorem t40_eq (v900 : AVal) : afun cx 40 [v900] = t40 v900 := by kernel_rfl
def t41 (v900 v901 : AVal) : IT :=
 .call 19 [v900] fun v0 =>
 .call 93 [v901] fun v1 =>
 .op (.int .eql) [v0, v1] fun v2 =>
 .cnd v2 (
 .call 95 [v900] fun v3 =>
 .call 96 [v901] fun v4 =>
 .call 94 [v3, v4] fun v5 =>
 .ret .ret [v5]) (
 .ret .ret [ff])
theorem t41_eq (v900 v901 : AVal) : afun cx 41 [v900, v901] = t41 v900 v901 := by kernel_rfl
def t42 (v900 v901 : AVal) : IT :=
 .cells 13 v901 fun c0 =>
 .op .nonnil [v900] fun v1 =>
 .op (.faddr 0) [v1] fun v2 =>
 .load none v2 fun v3 =>
 .op (.mkagg [(I 0), (I 0), .slnil, (I 0), (I 0), (S []), .slnil, (S []), (S []), (S []), ff, (I 0), (I 0)] [(0, 13)]) [(.agg [(g c0 0), (g c0 1), (g c0 2), (g c0 3), (g c0 4), (g c0 5), (g c0 6), (g c0 7), (g c0 8), (g c0 9), (g c0 10), (g c0 11), (g c0 12)])] fun v4 =>
 .op (.mksl 13) [v4] fun v5 =>
 .grow 13 168 v3 v5 fun v6 =>
 .op .nonnil [v900] fun v7 =>
 .op (.faddr 0) [v7] fun v8 =>
 .store 1 v8 v6 (
 .op .nonnil [v900] fun v9 =>
 .op (.faddr 0) [v9] fun v10 =>
 .load none v10 fun v11 =>
 .op (.len false) [v11] fun v12 =>
 .ret .ret [v12])
theorem t42_eq (v900 v901 : AVal) : afun cx 42 [v900, v901] = t42 v900 v901 := by kernel_rfl
def t43 (v900 v901 : AVal) : IT :=
 .op .nonnil [v900] fun v0 =>
 .op (.faddr 0) [v0] fun v1 =>
 .load none v1 fun v2 =>
 .op (.int .sub) [v901, (I 1)] fun v3 =>
 .op (.eaddr 13) [v2, v3] fun v4 =>
 .ret .ret [v4]
theorem t43_eq (v900 v901 : AVal) : afun cx 43 [v900, v901] = t43 v900 v901 := by kernel_rfl
def t44 (v900 v901 v902 : AVal) : IT :=
 .cells 13 v902 fun c0 =>
 .call 97 [v900, v901] fun v1 =>
 .op (.int .neq) [v1, (I 0)] fun v2 =>
 .cnd v2 (
 .ret .ret [(.tuple [(I 0), v1])]) (
 .cells 1 v901 fun c3 =>
 .call 42 [v900, (.agg [(g c0 0), (g c0 1), (g c0 2), (g c3 0), (g c0 4), (g c0 5), (g c0 6), (g c0 7), (g c0 8), (g c0 9), (g c0 10), (g c0 11), (g c0 12)])] fun v4 =>
 .ret .ret [(.tuple [v4, (I 0)])])
theorem t44_eq (v900 v901 v902 : AVal) : afun cx 44 [v900, v901, v902] = t44 v900 v901 v902 := by kernel_rfl
def t45 (v900 v901 v902 v903 : AVal) : IT :=
 .cells 12 v901 fun c0 =>
 .call 51 [v900] fun v1 =>
 .op (.un .not) [v1] fun v2 =>
 .cnd v2 (
 .op (.mkagg [(I 0), (I 0), (S []), ff] []) [] fun v3 =>
 .cells 4 v3 fun c4 =>
 .ret .ret [(.agg [(g c4 0), (g c4 1), (g c4 2), (g c4 3)])]) (
 .op (.int .lss) [v902, (I 0)] fun v5 =>
 .cnd v5 (
 .op (.mkagg [(I 0), (I 0), (S []), ff] []) [] fun v6 =>
 .cells 4 v6 fun c7 =>
 .ret .ret [(.agg [(g c7 0), (g c7 1), (g c7 2), (g c7 3)])]) (
 .op (.int .gtr) [v902, (I 7)] fun v8 =>
 .cnd v8 (
 .op (.mkagg [(I 0), (I 0), (S []), ff] []) [] fun v9 =>
 .cells 4 v9 fun c10 =>
 .ret .ret [(.agg [(g c10 0), (g c10 1), (g c10 2), (g c10 3)])]) (
 .call 98 [v902, (g c0 8)] fun v11 =>
 .op (.int .eql) [v902, (I 2)] fun v12 =>
 .cnd v12 (
 .pcall 99 [(g c0 1)] fun v13 =>
 .op .nonnil [v900] fun v14 =>
 .op (.faddr 0) [v14] fun v15 =>
 .load none v15 fun v16 =>
 .call 101 [v900, v903] fun v17 =>
 .load none v15 fun v18 =>
 .same v16 v18 (
 .call 100 [v16, v17, v902, v13, v11] fun v19 =>
 .op (.ext 0) [v19] fun v20 =>
 .op (.ext 1) [v19] fun v21 =>
 .op (.int .neq) [v21, (I 0)] fun v22 =>
 .cnd v22 (
 .op (.mkagg [(I 0), (I 0), (S []), ff] []) [] fun v23 =>
 .cells 4 v23 fun c24 =>
 .ret .ret [(.agg [(g c24 0), (g c24 1), (g c24 2), (g c24 3)])]) (
 .call 48 [v902, v13, v11] fun v25 =>
 .op (.mkagg [(I 0), (I 0), (S []), ff] [(0, 1), (1, 1), (2, 1), (3, 1)]) [v20, v902, v13, v25] fun v26 =>
 .cells 4 v26 fun c27 =>
 .ret .ret [(.agg [(g c27 0), (g c27 1), (g c27 2), (g c27 3)])]))) (
 .op .nonnil [v900] fun v28 =>
 .op (.faddr 0) [v28] fun v29 =>
 .load none v29 fun v30 =>
 .call 101 [v900, v903] fun v31 =>
 .load none v29 fun v32 =>
 .same v30 v32 (
 .call 100 [v30, v31, v902, (g c0 1), v11] fun v33 =>
 .op (.ext 0) [v33] fun v34 =>
 .op (.ext 1) [v33] fun v35 =>
 .op (.int .neq) [v35, (I 0)] fun v36 =>
 .cnd v36 (
 .op (.mkagg [(I 0), (I 0), (S []), ff] []) [] fun v37 =>
 .cells 4 v37 fun c38 =>
 .ret .ret [(.agg [(g c38 0), (g c38 1), (g c38 2), (g c38 3)])]) (
 .call 48 [v902, (g c0 1), v11] fun v39 =>
 .op (.mkagg [(I 0), (I 0), (S []), ff] [(0, 1), (1, 1), (2, 1), (3, 1)]) [v34, v902, (g c0 1), v39] fun v40 =>
 .cells 4 v40 fun c41 =>
 .ret .ret [(.agg [(g c41 0), (g c41 1), (g c41 2), (g c41 3)])]))))))
theorem t45_eq (v900 v901 v902 v903 : AVal) : afun cx 45 [v900, v901, v902, v903] = t45 v900 v901 v902 v903 := by kernel_rfl
def t46 (v900 v901 v902 v903 : AVal) : IT :=
 .cells 1 v900 fun c0 =>
 .call 58 [(g c0 0), v902] fun v1 =>
 .op (.part 0 none) [v1] fun v2 =>
 .op (.int .eql) [v2, (I 1)] fun v3 =>
 .cnd v3 (
 .call 58 [(g c0 0), v901] fun v4 =>
 .op (.part 0 none) [v4] fun v5 =>
 .op (.int .eql) [v5, (I 4)] fun v6 =>
 .cnd v6 (
 .op .nonnil [(g c0 0)] fun v7 =>
 .op (.faddr 0) [v7] fun v8 =>
 .load none v8 fun v9 =>
 .call 103 [v9, v902] fun v10 =>
 .call 102 [v10, (.func (.func 104) [] [(.rptr [(g c0 0)])])] fun v11 =>
 .cnd v11 (
 .ret .ret [(.tuple [])]) (
 .load none (.rptr [(g c0 0)]) fun v12 =>
 .op .nonnil [v12] fun v13 =>
 .op (.faddr 0) [v13] fun v14 =>
 .load none v14 fun v15 =>
 .call 105 [v15, v902, v901, v903] fun v16 =>
 .ret .ret [(.tuple [])])) (
 .op .nonnil [(g c0 0)] fun v17 =>
 .op (.faddr 0) [v17] fun v18 =>
 .load none v18 fun v19 =>
 .call 105 [v19, v902, v901, v903] fun v20 =>
 .ret .ret [(.tuple [])])) (
 .op .nonnil [(g c0 0)] fun v21 =>
 .op (.faddr 0) [v21] fun v22 =>
 .load none v22 fun v23 =>
 .call 105 [v23, v902, v901, v903] fun v24 =>
 .ret .ret [(.tuple [])])
theorem t46_eq (v900 v901 v902 v903 : AVal) : afun cx 46 [v900, v901, v902, v903] = t46 v900 v901 v902 v903 := by kernel_rfl
def t47 (v900 v901 : AVal) : IT :=
 .cells 4 v901 fun c0 =>
 .op (.peq true) [v900, (.ptr none)] fun v1 =>
 .cnd v1 (
 .op .nonnil [v900] fun v2 =>
 .op (.faddr 0) [v2] fun v3 =>
 .load none v3 fun v4 =>
 .op .nonnil [v900] fun v5 =>
 .op (.faddr 0) [v5] fun v6 =>
 .load none v6 fun v7 =>
 .op (.len false) [v7] fun v8 =>
 .call 106 [v4, (.agg [(g c0 0), (g c0 1), (g c0 2), (g c0 3)]), v8] fun v9 =>
 .op .nonnil [v900] fun v10 =>
 .op (.faddr 0) [v10] fun v11 =>
 .store 1 v11 v9 (
 .ret .ret [(.tuple [])])) (
 .ret .ret [(.tuple [])])
theorem t47_eq (v900 v901 : AVal) : afun cx 47 [v900, v901] = t47 v900 v901 := by kernel_rfl
def t48 (v900 v901 v902 : AVal) : IT :=
 .op (.int .eql) [v900, (I 2)] fun v0 =>
 .cnd v0 (
 .pcall 107 [v900, v901] fun v1 =>
 .ret .ret [v1]) (
 .op (.int .neq) [v900, (I 3)] fun v2 =>
 .cnd v2 (
 .ret .ret [ff]) (
 .op (.str .neq) [v901, (S [97,110,110,111,116,97,116,105,111,110,45,120,109,108])] fun v3 =>
 .cnd v3 (
 .ret .ret [ff]) (
 .call 108 [v902, (.func (.func 109) [] [])] fun v4 =>
 .op (.int .geq) [v4, (I 0)] fun v5 =>
 .cnd v5 (
 .op (.eaddr 3) [v902, v4] fun v6 =>
 .op (.faddr 2) [v6] fun v7 =>
 .load none v7 fun v8 =>
 .pcall 110 [v8, (S [116,101,120,116,47,104,116,109,108])] fun v9 =>
 .cnd v9 (
 .ret .ret [tt]) (
 .op (.eaddr 3) [v902, v4] fun v10 =>
 .op (.faddr 2) [v10] fun v11 =>
 .load none v11 fun v12 =>
 .pcall 110 [v12, (S [97,112,112,108,105,99,97,116,105,111,110,47,120,104,116,109,108,43,120,109,108])] fun v13 =>
 .ret .ret [v13])) (
 .ret .ret [ff]))))
theorem t48_eq (v900 v901 v902 : AVal) : afun cx 48 [v900, v901, v902] = t48 v900 v901 v902 := by kernel_rfl
end Go.Am
