/-
  The trees of the functions, written by a program; each is held against the code by the kernel. No law is claimed here.
-/
import Derived.Test.YtejpjabbdkpmiaaDoorCtx
import Derived.KernelRfl
set_option linter.unusedSimpArgs false
namespace Go.Am
open Go
set_option linter.unusedVariables false
def t77 (v900 : AVal) : IT :=
 .loop 2 [ff, (I 0)] (fun c0 =>
  .op (.len false) [v900] fun v1 =>
  .op (.int .lss) [(g c0 1), v1] fun v2 =>
  .cnd v2 (
   .op (.int .leq) [(g c0 1), (I 80)] fun v3 =>
   .cnd v3 (
    .op (.eaddr 6) [v900, (g c0 1)] fun v4 =>
    .op (.faddr 3) [v4] fun v5 =>
    .load none v5 fun v6 =>
    .op (.len true) [v6] fun v7 =>
    .op (.int .gtr) [v7, (I 60)] fun v8 =>
    .cnd v8 (
     .ret .ret [ff, (g c0 1)]) (
     .op (.eaddr 6) [v900, (g c0 1)] fun v9 =>
     .op (.faddr 4) [v9] fun v10 =>
     .load none v10 fun v11 =>
     .call 41 [v11] fun v12 =>
     .op (.un .not) [v12] fun v13 =>
     .cnd v13 (
      .ret .ret [ff, (g c0 1)]) (
      .op (.int .add) [(g c0 1), (I 1)] fun v14 =>
      .ret .normal [(g c0 0), v14]))) (
    .ret (.exit 0) [(g c0 0), (g c0 1)])) (
   .ret (.exit 0) [(g c0 0), (g c0 1)])) (
 fun x c15 => match x with
 | .normal =>
  .op (.len false) [v900] fun v16 =>
  .op (.int .leq) [v16, (I 80)] fun v17 =>
  .ret .ret [v17]
 | .exit i =>
  if i = 0 then
   .op (.len false) [v900] fun v18 =>
   .op (.int .leq) [v18, (I 80)] fun v19 =>
   .ret .ret [v19]
  else
  .fail
 | .ret =>
  .ret .ret [(g c15 0)])
theorem t77_eq (v900 : AVal) : afun cx 77 [v900] = t77 v900 := by kernel_rfl
def t78 (v900 v901 : AVal) : IT :=
 .cells 6 v901 fun c0 =>
 .op (.int .eql) [(g c0 0), (I 1)] fun v1 =>
 .cnd v1 (
  .call 131 [(.agg [(g c0 0), (g c0 1), (g c0 2), (g c0 3), (g c0 4), (g c0 5)]), (g c0 1)] fun v2 =>
  .call 71 [v900, v2] fun v3 =>
  .ret .ret [(I 0)]) (
  .op (.int .eql) [(g c0 0), (I 2)] fun v4 =>
  .cnd v4 (
   .call 94 [v900] fun v5 =>
   .ret .ret [(I 0)]) (
   .op (.int .eql) [(g c0 0), (I 3)] fun v6 =>
   .cnd v6 (
    .call 95 [v900] fun v7 =>
    .ret .ret [v7]) (
    .op (.int .eql) [(g c0 0), (I 4)] fun v8 =>
    .cnd v8 (
     .call 133 [v900, (g c0 1)] fun v9 =>
     .pcall 132 [v9] fun v10 =>
     .ret .ret [v10]) (
     .op (.int .eql) [(g c0 0), (I 5)] fun v11 =>
     .cnd v11 (
      .call 131 [(.agg [(g c0 0), (g c0 1), (g c0 2), (g c0 3), (g c0 4), (g c0 5)]), (g c0 2)] fun v12 =>
      .call 73 [v900, (g c0 1), v12] fun v13 =>
      .pcall 132 [v13] fun v14 =>
      .ret .ret [v14]) (
      .op (.int .eql) [(g c0 0), (I 6)] fun v15 =>
      .cnd v15 (
       .call 131 [(.agg [(g c0 0), (g c0 1), (g c0 2), (g c0 3), (g c0 4), (g c0 5)]), (g c0 1)] fun v16 =>
       .call 72 [v900, v16, (g c0 5)] fun v17 =>
       .ret .ret [(I 0)]) (
       .ret .ret [(I 0)]))))))
theorem t78_eq (v900 v901 : AVal) : afun cx 78 [v900, v901] = t78 v900 v901 := by kernel_rfl
def t79 (v900 v901 : AVal) : IT :=
 .cells 6 v901 fun c0 =>
 .op (.int .eql) [(g c0 0), (I 1)] fun v1 =>
 .cnd v1 (
  .call 131 [(.agg [(g c0 0), (g c0 1), (g c0 2), (g c0 3), (g c0 4), (g c0 5)]), (g c0 1)] fun v2 =>
  .call 134 [v900, v2] fun v3 =>
  .ret .ret [(.tuple [v3, (I 0)])]) (
  .op (.int .eql) [(g c0 0), (I 2)] fun v4 =>
  .cnd v4 (
   .op (.mkagg [(I 0), (S []), .slnil] []) [] fun v5 =>
   .op (.len false) [v900] fun v6 =>
   .call 135 [v900, v5, v6] fun v7 =>
   .ret .ret [(.tuple [v7, (I 0)])]) (
   .op (.int .eql) [(g c0 0), (I 3)] fun v8 =>
   .cnd v8 (
    .call 136 [v900] fun v9 =>
    .op (.len false) [v900] fun v10 =>
    .op (.len false) [v9] fun v11 =>
    .op (.int .sub) [v10, v11] fun v12 =>
    .ret .ret [(.tuple [v9, v12])]) (
    .op (.int .eql) [(g c0 0), (I 4)] fun v13 =>
    .cnd v13 (
     .call 83 [v900, (g c0 1)] fun v14 =>
     .op (.int .lss) [v14, (I 0)] fun v15 =>
     .cnd v15 (
      .ret .ret [(.tuple [v900, (I 0)])]) (
      .call 137 [v900, v14] fun v16 =>
      .ret .ret [(.tuple [v16, (I 1)])])) (
     .op (.int .eql) [(g c0 0), (I 5)] fun v17 =>
     .cnd v17 (
      .call 131 [(.agg [(g c0 0), (g c0 1), (g c0 2), (g c0 3), (g c0 4), (g c0 5)]), (g c0 2)] fun v18 =>
      .call 138 [v900, (g c0 1), v18] fun v19 =>
      .op (.ext 0) [v19] fun v20 =>
      .op (.ext 1) [v19] fun v21 =>
      .pcall 132 [v21] fun v22 =>
      .ret .ret [(.tuple [v20, v22])]) (
      .op (.int .eql) [(g c0 0), (I 6)] fun v23 =>
      .cnd v23 (
       .call 131 [(.agg [(g c0 0), (g c0 1), (g c0 2), (g c0 3), (g c0 4), (g c0 5)]), (g c0 1)] fun v24 =>
       .call 135 [v900, v24, (g c0 5)] fun v25 =>
       .ret .ret [(.tuple [v25, (I 0)])]) (
       .ret .ret [(.tuple [v900, (I 0)])]))))))
theorem t79_eq (v900 v901 : AVal) : afun cx 79 [v900, v901] = t79 v900 v901 := by kernel_rfl
def t80 (v900 v901 : AVal) : IT :=
 .op (.peq false) [v900, (.ptr none)] fun v0 =>
 .cnd v0 (
  .ret .ret [(I (-1))]) (
  .op .nonnil [v900] fun v1 =>
  .op (.faddr 0) [v1] fun v2 =>
  .load none v2 fun v3 =>
  .op (.len false) [v3] fun v4 =>
  .op (.int .sub) [v4, (I 1)] fun v5 =>
  .loop 4 [(I 0), v5] (fun c6 =>
   .op (.int .geq) [(g c6 1), (I 0)] fun v7 =>
   .cnd v7 (
    .op .nonnil [v900] fun v8 =>
    .op (.faddr 0) [v8] fun v9 =>
    .load none v9 fun v10 =>
    .op (.eaddr 3) [v10, (g c6 1)] fun v11 =>
    .op (.faddr 0) [v11] fun v12 =>
    .load none v12 fun v13 =>
    .op (.int .neq) [v13, (I 0)] fun v14 =>
    .cnd v14 (
     .op .nonnil [v900] fun v15 =>
     .op (.faddr 0) [v15] fun v16 =>
     .load none v16 fun v17 =>
     .op (.eaddr 3) [v17, (g c6 1)] fun v18 =>
     .op (.faddr 1) [v18] fun v19 =>
     .load none v19 fun v20 =>
     .op (.str .eql) [v20, v901] fun v21 =>
     .cnd v21 (
      .ret .ret [(g c6 1), (g c6 1)]) (
      .op (.int .sub) [(g c6 1), (I 1)] fun v22 =>
      .ret .normal [(g c6 0), v22])) (
     .ret (.exit 0) [(g c6 0), (g c6 1)])) (
    .ret (.exit 0) [(g c6 0), (g c6 1)])) (
  fun x c23 => match x with
  | .normal =>
   .ret .ret [(I (-1))]
  | .exit i =>
   if i = 0 then
    .ret .ret [(I (-1))]
   else
   .fail
  | .ret =>
   .ret .ret [(g c23 0)]))
theorem t80_eq (v900 v901 : AVal) : afun cx 80 [v900, v901] = t80 v900 v901 := by kernel_rfl
def t81 (v900 v901 : AVal) : IT :=
 .call 139 [v900] fun v0 =>
 .loop 3 [(I (-1)), v0] (fun c1 =>
  .op (.len false) [v900] fun v2 =>
  .op (.int .lss) [(g c1 1), v2] fun v3 =>
  .cnd v3 (
   .op (.eaddr 3) [v900, (g c1 1)] fun v4 =>
   .op (.faddr 1) [v4] fun v5 =>
   .load none v5 fun v6 =>
   .op (.str .eql) [v6, v901] fun v7 =>
   .cnd v7 (
    .op (.int .add) [(g c1 1), (I 1)] fun v8 =>
    .ret .normal [(g c1 1), v8]) (
    .op (.int .add) [(g c1 1), (I 1)] fun v9 =>
    .ret .normal [(g c1 0), v9])) (
   .ret (.exit 0) [(g c1 0), (g c1 1)])) (
 fun x c10 => match x with
 | .normal =>
  .ret .ret [(g c10 0)]
 | .exit i =>
  if i = 0 then
   .ret .ret [(g c10 0)]
  else
  .fail
 | .ret =>
  .ret .ret [(I 0)])
theorem t81_eq (v900 v901 : AVal) : afun cx 81 [v900, v901] = t81 v900 v901 := by kernel_rfl
def t82 (v900 v901 : AVal) : IT :=
 .op (.peq false) [v900, (.ptr none)] fun v0 =>
 .cnd v0 (
  .ret .ret [(I (-1))]) (
  .op (.int .eql) [v901, (I 0)] fun v1 =>
  .cnd v1 (
   .ret .ret [(I (-1))]) (
   .op .nonnil [v900] fun v2 =>
   .op (.faddr 0) [v2] fun v3 =>
   .load none v3 fun v4 =>
   .op (.len false) [v4] fun v5 =>
   .op (.int .sub) [v5, (I 1)] fun v6 =>
   .loop 4 [(I 0), v6] (fun c7 =>
    .op (.int .geq) [(g c7 1), (I 0)] fun v8 =>
    .cnd v8 (
     .op .nonnil [v900] fun v9 =>
     .op (.faddr 0) [v9] fun v10 =>
     .load none v10 fun v11 =>
     .op (.eaddr 3) [v11, (g c7 1)] fun v12 =>
     .op (.faddr 0) [v12] fun v13 =>
     .load none v13 fun v14 =>
     .op (.int .eql) [v14, v901] fun v15 =>
     .cnd v15 (
      .ret .ret [(g c7 1), (g c7 1)]) (
      .op (.int .sub) [(g c7 1), (I 1)] fun v16 =>
      .ret .normal [(g c7 0), v16])) (
     .ret (.exit 0) [(g c7 0), (g c7 1)])) (
   fun x c17 => match x with
   | .normal =>
    .ret .ret [(I (-1))]
   | .exit i =>
    if i = 0 then
     .ret .ret [(I (-1))]
    else
    .fail
   | .ret =>
    .ret .ret [(g c17 0)])))
theorem t82_eq (v900 v901 : AVal) : afun cx 82 [v900, v901] = t82 v900 v901 := by kernel_rfl
def t83 (v900 v901 : AVal) : IT :=
 .loop 3 [(I (-1)), (I 0)] (fun c0 =>
  .op (.len false) [v900] fun v1 =>
  .op (.int .lss) [(g c0 1), v1] fun v2 =>
  .cnd v2 (
   .op (.int .neq) [v901, (I 0)] fun v3 =>
   .cnd v3 (
    .op (.eaddr 3) [v900, (g c0 1)] fun v4 =>
    .op (.faddr 0) [v4] fun v5 =>
    .load none v5 fun v6 =>
    .op (.int .eql) [v6, v901] fun v7 =>
    .cnd v7 (
     .op (.int .add) [(g c0 1), (I 1)] fun v8 =>
     .ret .normal [(g c0 1), v8]) (
     .op (.int .add) [(g c0 1), (I 1)] fun v9 =>
     .ret .normal [(g c0 0), v9])) (
    .op (.int .add) [(g c0 1), (I 1)] fun v10 =>
    .ret .normal [(g c0 0), v10])) (
   .ret (.exit 0) [(g c0 0), (g c0 1)])) (
 fun x c11 => match x with
 | .normal =>
  .ret .ret [(g c11 0)]
 | .exit i =>
  if i = 0 then
   .ret .ret [(g c11 0)]
  else
  .fail
 | .ret =>
  .ret .ret [(I 0)])
theorem t83_eq (v900 v901 : AVal) : afun cx 83 [v900, v901] = t83 v900 v901 := by kernel_rfl
def t84 (v900 v901 : AVal) : IT :=
 .cells 3 v900 fun c0 =>
 .cells 3 v901 fun c1 =>
 .op (.str .neq) [(g c0 1), (g c1 1)] fun v2 =>
 .cnd v2 (
  .ret .ret [ff]) (
  .op (.len false) [(g c0 2)] fun v3 =>
  .op (.len false) [(g c1 2)] fun v4 =>
  .op (.int .neq) [v3, v4] fun v5 =>
  .cnd v5 (
   .ret .ret [ff]) (
   .loop 4 [ff, (I 0)] (fun c6 =>
    .op (.len false) [(g c0 2)] fun v7 =>
    .op (.int .lss) [(g c6 1), v7] fun v8 =>
    .cnd v8 (
     .op (.eaddr 3) [(g c0 2), (g c6 1)] fun v9 =>
     .load (some 3) v9 fun v10 =>
     .call 140 [(g c1 2), v10] fun v11 =>
     .op (.un .not) [v11] fun v12 =>
     .cnd v12 (
      .ret .ret [ff, (g c6 1)]) (
      .op (.eaddr 3) [(g c1 2), (g c6 1)] fun v13 =>
      .load (some 3) v13 fun v14 =>
      .call 140 [(g c0 2), v14] fun v15 =>
      .op (.un .not) [v15] fun v16 =>
      .cnd v16 (
       .ret .ret [ff, (g c6 1)]) (
       .op (.int .add) [(g c6 1), (I 1)] fun v17 =>
       .ret .normal [(g c6 0), v17]))) (
     .ret (.exit 0) [(g c6 0), (g c6 1)])) (
   fun x c18 => match x with
   | .normal =>
    .ret .ret [tt]
   | .exit i =>
    if i = 0 then
     .ret .ret [tt]
    else
    .fail
   | .ret =>
    .ret .ret [(g c18 0)])))
theorem t84_eq (v900 v901 : AVal) : afun cx 84 [v900, v901] = t84 v900 v901 := by kernel_rfl
def t85 (v900 v901 : AVal) : IT :=
 .mnew fun v0 =>
 .op (.mkagg [(I 0), (S []), (S [])] [(0, 1), (1, 1)]) [(I 4), (S [97,99,116,117,97,116,101])] fun v1 =>
 .mset v0 (S [120,108,105,110,107,58,97,99,116,117,97,116,101]) v1 (
 .op (.mkagg [(I 0), (S []), (S [])] [(0, 1), (1, 1)]) [(I 4), (S [97,114,99,114,111,108,101])] fun v2 =>
 .mset v0 (S [120,108,105,110,107,58,97,114,99,114,111,108,101]) v2 (
 .op (.mkagg [(I 0), (S []), (S [])] [(0, 1), (1, 1)]) [(I 4), (S [104,114,101,102])] fun v3 =>
 .mset v0 (S [120,108,105,110,107,58,104,114,101,102]) v3 (
 .op (.mkagg [(I 0), (S []), (S [])] [(0, 1), (1, 1)]) [(I 4), (S [114,111,108,101])] fun v4 =>
 .mset v0 (S [120,108,105,110,107,58,114,111,108,101]) v4 (
 .op (.mkagg [(I 0), (S []), (S [])] [(0, 1), (1, 1)]) [(I 4), (S [115,104,111,119])] fun v5 =>
 .mset v0 (S [120,108,105,110,107,58,115,104,111,119]) v5 (
 .op (.mkagg [(I 0), (S []), (S [])] [(0, 1), (1, 1)]) [(I 4), (S [116,105,116,108,101])] fun v6 =>
 .mset v0 (S [120,108,105,110,107,58,116,105,116,108,101]) v6 (
 .op (.mkagg [(I 0), (S []), (S [])] [(0, 1), (1, 1)]) [(I 4), (S [116,121,112,101])] fun v7 =>
 .mset v0 (S [120,108,105,110,107,58,116,121,112,101]) v7 (
 .op (.mkagg [(I 0), (S []), (S [])] [(0, 1), (1, 1)]) [(I 5), (S [108,97,110,103])] fun v8 =>
 .mset v0 (S [120,109,108,58,108,97,110,103]) v8 (
 .op (.mkagg [(I 0), (S []), (S [])] [(0, 1), (1, 1)]) [(I 5), (S [115,112,97,99,101])] fun v9 =>
 .mset v0 (S [120,109,108,58,115,112,97,99,101]) v9 (
 .op (.mkagg [(I 0), (S []), (S [])] [(0, 1), (1, 1)]) [(I 6), (S [120,109,108,110,115])] fun v10 =>
 .mset v0 (S [120,109,108,110,115]) v10 (
 .op (.mkagg [(I 0), (S []), (S [])] [(0, 1), (1, 1)]) [(I 6), (S [120,108,105,110,107])] fun v11 =>
 .mset v0 (S [120,109,108,110,115,58,120,108,105,110,107]) v11 (
 .op (.len false) [v901] fun v12 =>
 .loop 4 [.slnil, (I 0)] (fun c13 =>
  .op (.int .lss) [(g c13 1), v12] fun v14 =>
  .cnd v14 (
   .op (.eaddr 3) [v901, (g c13 1)] fun v15 =>
   .load (some 3) v15 fun v16 =>
   .cells 3 v16 fun c17 =>
   .op (.mkagg [(I 0), (S []), (S [])] [(1, 1), (2, 1)]) [(g c17 1), (g c17 2)] fun v18 =>
   .cells 3 v18 fun c19 =>
   .op (.int .eql) [v900, (I 2)] fun v20 =>
   .cnd v20 (
    .pcall 141 [(g c17 1)] fun v21 =>
    .cells 1 v21 fun c22 =>
    .mget (.agg [(I 0), (S []), (S [])]) true v0 (g c22 0) fun v23 =>
    .op (.ext 0) [v23] fun v24 =>
    .op (.ext 1) [v23] fun v25 =>
    .cells 3 v24 fun c26 =>
    .cnd v25 (
     .op (.int .eql) [v900, (I 2)] fun v27 =>
     .cnd v27 (
      .cells 1 (g c26 0) fun c28 =>
      .cells 1 (g c26 1) fun c29 =>
      .op (.mksl 3) [(.agg [(g c28 0), (g c29 0), (g c19 2)])] fun v30 =>
      .op (.append 3 40) [(g c13 0), v30] fun v31 =>
      .op (.int .add) [(g c13 1), (I 1)] fun v32 =>
      .ret .normal [v31, v32]) (
      .op (.int .eql) [v900, (I 3)] fun v33 =>
      .cnd v33 (
       .cells 1 (g c26 0) fun c34 =>
       .cells 1 (g c26 1) fun c35 =>
       .op (.mksl 3) [(.agg [(g c34 0), (g c35 0), (g c19 2)])] fun v36 =>
       .op (.append 3 40) [(g c13 0), v36] fun v37 =>
       .op (.int .add) [(g c13 1), (I 1)] fun v38 =>
       .ret .normal [v37, v38]) (
       .op (.mksl 3) [(.agg [(g c19 0), (g c22 0), (g c19 2)])] fun v39 =>
       .op (.append 3 40) [(g c13 0), v39] fun v40 =>
       .op (.int .add) [(g c13 1), (I 1)] fun v41 =>
       .ret .normal [v40, v41]))) (
     .op (.mksl 3) [(.agg [(g c19 0), (g c22 0), (g c19 2)])] fun v42 =>
     .op (.append 3 40) [(g c13 0), v42] fun v43 =>
     .op (.int .add) [(g c13 1), (I 1)] fun v44 =>
     .ret .normal [v43, v44])) (
    .op (.int .eql) [v900, (I 3)] fun v45 =>
    .cnd v45 (
     .op (.str .eql) [(g c17 1), (S [100,101,102,105,110,105,116,105,111,110,117,114,108])] fun v46 =>
     .cnd v46 (
      .cells 1 (S [100,101,102,105,110,105,116,105,111,110,85,82,76]) fun c47 =>
      .mget (.agg [(I 0), (S []), (S [])]) true v0 (g c47 0) fun v48 =>
      .op (.ext 0) [v48] fun v49 =>
      .op (.ext 1) [v48] fun v50 =>
      .cells 3 v49 fun c51 =>
      .cnd v50 (
       .op (.int .eql) [v900, (I 2)] fun v52 =>
       .cnd v52 (
        .cells 1 (g c51 0) fun c53 =>
        .cells 1 (g c51 1) fun c54 =>
        .op (.mksl 3) [(.agg [(g c53 0), (g c54 0), (g c19 2)])] fun v55 =>
        .op (.append 3 40) [(g c13 0), v55] fun v56 =>
        .op (.int .add) [(g c13 1), (I 1)] fun v57 =>
        .ret .normal [v56, v57]) (
        .op (.int .eql) [v900, (I 3)] fun v58 =>
        .cnd v58 (
         .cells 1 (g c51 0) fun c59 =>
         .cells 1 (g c51 1) fun c60 =>
         .op (.mksl 3) [(.agg [(g c59 0), (g c60 0), (g c19 2)])] fun v61 =>
         .op (.append 3 40) [(g c13 0), v61] fun v62 =>
         .op (.int .add) [(g c13 1), (I 1)] fun v63 =>
         .ret .normal [v62, v63]) (
         .op (.mksl 3) [(.agg [(g c19 0), (g c47 0), (g c19 2)])] fun v64 =>
         .op (.append 3 40) [(g c13 0), v64] fun v65 =>
         .op (.int .add) [(g c13 1), (I 1)] fun v66 =>
         .ret .normal [v65, v66]))) (
       .op (.mksl 3) [(.agg [(g c19 0), (g c47 0), (g c19 2)])] fun v67 =>
       .op (.append 3 40) [(g c13 0), v67] fun v68 =>
       .op (.int .add) [(g c13 1), (I 1)] fun v69 =>
       .ret .normal [v68, v69])) (
      .mget (.agg [(I 0), (S []), (S [])]) true v0 (g c19 1) fun v70 =>
      .op (.ext 0) [v70] fun v71 =>
      .op (.ext 1) [v70] fun v72 =>
      .cells 3 v71 fun c73 =>
      .cnd v72 (
       .op (.int .eql) [v900, (I 2)] fun v74 =>
       .cnd v74 (
        .cells 1 (g c73 0) fun c75 =>
        .cells 1 (g c73 1) fun c76 =>
        .op (.mksl 3) [(.agg [(g c75 0), (g c76 0), (g c19 2)])] fun v77 =>
        .op (.append 3 40) [(g c13 0), v77] fun v78 =>
        .op (.int .add) [(g c13 1), (I 1)] fun v79 =>
        .ret .normal [v78, v79]) (
        .op (.int .eql) [v900, (I 3)] fun v80 =>
        .cnd v80 (
         .cells 1 (g c73 0) fun c81 =>
         .cells 1 (g c73 1) fun c82 =>
         .op (.mksl 3) [(.agg [(g c81 0), (g c82 0), (g c19 2)])] fun v83 =>
         .op (.append 3 40) [(g c13 0), v83] fun v84 =>
         .op (.int .add) [(g c13 1), (I 1)] fun v85 =>
         .ret .normal [v84, v85]) (
         .op (.mksl 3) [(.agg [(g c19 0), (g c19 1), (g c19 2)])] fun v86 =>
         .op (.append 3 40) [(g c13 0), v86] fun v87 =>
         .op (.int .add) [(g c13 1), (I 1)] fun v88 =>
         .ret .normal [v87, v88]))) (
       .op (.mksl 3) [(.agg [(g c19 0), (g c19 1), (g c19 2)])] fun v89 =>
       .op (.append 3 40) [(g c13 0), v89] fun v90 =>
       .op (.int .add) [(g c13 1), (I 1)] fun v91 =>
       .ret .normal [v90, v91]))) (
     .mget (.agg [(I 0), (S []), (S [])]) true v0 (g c19 1) fun v92 =>
     .op (.ext 0) [v92] fun v93 =>
     .op (.ext 1) [v92] fun v94 =>
     .cells 3 v93 fun c95 =>
     .cnd v94 (
      .op (.int .eql) [v900, (I 2)] fun v96 =>
      .cnd v96 (
       .cells 1 (g c95 0) fun c97 =>
       .cells 1 (g c95 1) fun c98 =>
       .op (.mksl 3) [(.agg [(g c97 0), (g c98 0), (g c19 2)])] fun v99 =>
       .op (.append 3 40) [(g c13 0), v99] fun v100 =>
       .op (.int .add) [(g c13 1), (I 1)] fun v101 =>
       .ret .normal [v100, v101]) (
       .op (.int .eql) [v900, (I 3)] fun v102 =>
       .cnd v102 (
        .cells 1 (g c95 0) fun c103 =>
        .cells 1 (g c95 1) fun c104 =>
        .op (.mksl 3) [(.agg [(g c103 0), (g c104 0), (g c19 2)])] fun v105 =>
        .op (.append 3 40) [(g c13 0), v105] fun v106 =>
        .op (.int .add) [(g c13 1), (I 1)] fun v107 =>
        .ret .normal [v106, v107]) (
        .op (.mksl 3) [(.agg [(g c19 0), (g c19 1), (g c19 2)])] fun v108 =>
        .op (.append 3 40) [(g c13 0), v108] fun v109 =>
        .op (.int .add) [(g c13 1), (I 1)] fun v110 =>
        .ret .normal [v109, v110]))) (
      .op (.mksl 3) [(.agg [(g c19 0), (g c19 1), (g c19 2)])] fun v111 =>
      .op (.append 3 40) [(g c13 0), v111] fun v112 =>
      .op (.int .add) [(g c13 1), (I 1)] fun v113 =>
      .ret .normal [v112, v113])))) (
   .ret (.exit 0) [(g c13 0), (g c13 1)])) (
 fun x c114 => match x with
 | .normal =>
  .ret .ret [(g c114 0)]
 | .exit i =>
  if i = 0 then
   .ret .ret [(g c114 0)]
  else
  .fail
 | .ret =>
  .ret .ret [.slnil]))))))))))))
theorem t85_eq (v900 v901 : AVal) : afun cx 85 [v900, v901] = t85 v900 v901 := by kernel_rfl
def t86 (v900 v901 : AVal) : IT :=
 .op (.len false) [v900] fun v0 =>
 .op (.len false) [v901] fun v1 =>
 .op (.int .neq) [v0, v1] fun v2 =>
 .cnd v2 (
  .ret .ret [ff]) (
  .loop 4 [ff, (I 0)] (fun c3 =>
   .op (.len false) [v900] fun v4 =>
   .op (.int .lss) [(g c3 1), v4] fun v5 =>
   .cnd v5 (
    .op (.eaddr 3) [v900, (g c3 1)] fun v6 =>
    .load (some 3) v6 fun v7 =>
    .op (.eaddr 3) [v901, (g c3 1)] fun v8 =>
    .load (some 3) v8 fun v9 =>
    .op (.geq true [.i, .s, .s]) [v7, v9] fun v10 =>
    .cnd v10 (
     .ret .ret [ff, (g c3 1)]) (
     .op (.int .add) [(g c3 1), (I 1)] fun v11 =>
     .ret .normal [(g c3 0), v11])) (
    .ret (.exit 0) [(g c3 0), (g c3 1)])) (
  fun x c12 => match x with
  | .normal =>
   .ret .ret [tt]
  | .exit i =>
   if i = 0 then
    .ret .ret [tt]
   else
   .fail
  | .ret =>
   .ret .ret [(g c12 0)]))
theorem t86_eq (v900 v901 : AVal) : afun cx 86 [v900, v901] = t86 v900 v901 := by kernel_rfl
def t87 (v900 v901 : AVal) : IT :=
 .loop 3 [.slnil, (I 0)] (fun c0 =>
  .op (.len false) [v901] fun v1 =>
  .op (.int .lss) [(g c0 1), v1] fun v2 =>
  .cnd v2 (
   .op (.eaddr 3) [v901, (g c0 1)] fun v3 =>
   .op (.faddr 1) [v3] fun v4 =>
   .load none v4 fun v5 =>
   .op (.eaddr 3) [v901, (g c0 1)] fun v6 =>
   .op (.faddr 2) [v6] fun v7 =>
   .load none v7 fun v8 =>
   .op (.mkagg [(I 0), (S []), (S [])] [(1, 1), (2, 1)]) [v5, v8] fun v9 =>
   .cells 3 v9 fun c10 =>
   .op (.int .eql) [v900, (I 3)] fun v11 =>
   .cnd v11 (
    .op (.str .eql) [(g c10 1), (S [100,101,102,105,110,105,116,105,111,110,117,114,108])] fun v12 =>
    .cnd v12 (
     .cells 1 (S [100,101,102,105,110,105,116,105,111,110,85,82,76]) fun c13 =>
     .op (.int .eql) [v900, (I 2)] fun v14 =>
     .cnd v14 (
      .pcall 117 [(S [97,116,116,114,105,98,117,116,101,78,97,109,101,32,97,116,116,114,105,98,117,116,101,84,121,112,101,32,98,97,115,101,70,114,101,113,117,101,110,99,121,32,98,97,115,101,80,114,111,102,105,108,101,32,99,97,108,99,77,111,100,101,32,99,108,105,112,80,97,116,104,85,110,105,116,115,32,100,105,102,102,117,115,101,67,111,110,115,116,97,110,116,32,101,100,103,101,77,111,100,101,32,102,105,108,116,101,114,85,110,105,116,115,32,103,108,121,112,104,82,101,102,32,103,114,97,100,105,101,110,116,84,114,97,110,115,102,111,114,109,32,103,114,97,100,105,101,110,116,85,110,105,116,115,32,107,101,114,110,101,108,77,97,116,114,105,120,32,107,101,114,110,101,108,85,110,105,116,76,101,110,103,116,104,32,107,101,121,80,111,105,110,116,115,32,107,101,121,83,112,108,105,110,101,115,32,107,101,121,84,105,109,101,115,32,108,101,110,103,116,104,65,100,106,117,115,116,32,108,105,109,105,116,105,110,103,67,111,110,101,65,110,103,108,101,32,109,97,114,107,101,114,72,101,105,103,104,116,32,109,97,114,107,101,114,85,110,105,116,115,32,109,97,114,107,101,114,87,105,100,116,104,32,109,97,115,107,67,111,110,116,101,110,116,85,110,105,116,115,32,109,97,115,107,85,110,105,116,115,32,110,117,109,79,99,116,97,118,101,115,32,112,97,116,104,76,101,110,103,116,104,32,112,97,116,116,101,114,110,67,111,110,116,101,110,116,85,110,105,116,115,32,112,97,116,116,101,114,110,84,114,97,110,115,102,111,114,109,32,112,97,116,116,101,114,110,85,110,105,116,115,32,112,111,105,110,116,115,65,116,88,32,112,111,105,110,116,115,65,116,89,32,112,111,105,110,116,115,65,116,90,32,112,114,101,115,101,114,118,101,65,108,112,104,97,32,112,114,101,115,101,114,118,101,65,115,112,101,99,116,82,97,116,105,111,32,112,114,105,109,105,116,105,118,101,85,110,105,116,115,32,114,101,102,88,32,114,101,102,89,32,114,101,112,101,97,116,67,111,117,110,116,32,114,101,112,101,97,116,68,117,114,32,114,101,113,117,105,114,101,100,69,120,116,101,110,115,105,111,110,115,32,114,101,113,117,105,114,101,100,70,101,97,116,117,114,101,115,32,115,112,101,99,117,108,97,114,67,111,110,115,116,97,110,116,32,115,112,101,99,117,108,97,114,69,120,112,111,110,101,110,116,32,115,112,114,101,97,100,77,101,116,104,111,100,32,115,116,97,114,116,79,102,102,115,101,116,32,115,116,100,68,101,118,105,97,116,105,111,110,32,115,116,105,116,99,104,84,105,108,101,115,32,115,117,114,102,97,99,101,83,99,97,108,101,32,115,121,115,116,101,109,76,97,110,103,117,97,103,101,32,116,97,98,108,101,86,97,108,117,101,115,32,116,97,114,103,101,116,88,32,116,97,114,103,101,116,89,32,116,101,120,116,76,101,110,103,116,104,32,118,105,101,119,66,111,120,32,118,105,101,119,84,97,114,103,101,116,32,120,67,104,97,110,110,101,108,83,101,108,101,99,116,111,114,32,121,67,104,97,110,110,101,108,83,101,108,101,99,116,111,114,32,122,111,111,109,65,110,100,80,97,110]), (g c13 0)] fun v15 =>
      .cells 1 v15 fun c16 =>
      .op (.int .eql) [v900, (I 3)] fun v17 =>
      .cnd v17 (
       .pcall 109 [(S [120,108,105,110,107,58,97,99,116,117,97,116,101,32,120,108,105,110,107,58,97,114,99,114,111,108,101,32,120,108,105,110,107,58,104,114,101,102,32,120,108,105,110,107,58,114,111,108,101,32,120,108,105,110,107,58,115,104,111,119,32,120,108,105,110,107,58,116,105,116,108,101,32,120,108,105,110,107,58,116,121,112,101]), (g c16 0)] fun v18 =>
       .cnd v18 (
        .op (.slc 0 true true false) [(g c16 0), (I 6)] fun v19 =>
        .cells 1 (I 4) fun c20 =>
        .cells 1 v19 fun c21 =>
        .op (.mksl 3) [(.agg [(g c20 0), (g c21 0), (g c10 2)])] fun v22 =>
        .op (.append 3 40) [(g c0 0), v22] fun v23 =>
        .op (.int .add) [(g c0 1), (I 1)] fun v24 =>
        .ret .normal [v23, v24]) (
        .op (.str .eql) [(g c16 0), (S [120,109,108,58,108,97,110,103])] fun v25 =>
        .cnd v25 (
         .op (.slc 0 true true false) [(g c16 0), (I 4)] fun v26 =>
         .cells 1 (I 5) fun c27 =>
         .cells 1 v26 fun c28 =>
         .op (.mksl 3) [(.agg [(g c27 0), (g c28 0), (g c10 2)])] fun v29 =>
         .op (.append 3 40) [(g c0 0), v29] fun v30 =>
         .op (.int .add) [(g c0 1), (I 1)] fun v31 =>
         .ret .normal [v30, v31]) (
         .op (.str .eql) [(g c16 0), (S [120,109,108,58,115,112,97,99,101])] fun v32 =>
         .cnd v32 (
          .op (.slc 0 true true false) [(g c16 0), (I 4)] fun v33 =>
          .cells 1 (I 5) fun c34 =>
          .cells 1 v33 fun c35 =>
          .op (.mksl 3) [(.agg [(g c34 0), (g c35 0), (g c10 2)])] fun v36 =>
          .op (.append 3 40) [(g c0 0), v36] fun v37 =>
          .op (.int .add) [(g c0 1), (I 1)] fun v38 =>
          .ret .normal [v37, v38]) (
          .op (.str .eql) [(g c16 0), (S [120,109,108,110,115])] fun v39 =>
          .cnd v39 (
           .cells 1 (I 6) fun c40 =>
           .op (.mksl 3) [(.agg [(g c40 0), (g c16 0), (g c10 2)])] fun v41 =>
           .op (.append 3 40) [(g c0 0), v41] fun v42 =>
           .op (.int .add) [(g c0 1), (I 1)] fun v43 =>
           .ret .normal [v42, v43]) (
           .op (.str .eql) [(g c16 0), (S [120,109,108,110,115,58,120,108,105,110,107])] fun v44 =>
           .cnd v44 (
            .cells 1 (I 6) fun c45 =>
            .cells 1 (S [120,108,105,110,107]) fun c46 =>
            .op (.mksl 3) [(.agg [(g c45 0), (g c46 0), (g c10 2)])] fun v47 =>
            .op (.append 3 40) [(g c0 0), v47] fun v48 =>
            .op (.int .add) [(g c0 1), (I 1)] fun v49 =>
            .ret .normal [v48, v49]) (
            .op (.mksl 3) [(.agg [(g c10 0), (g c16 0), (g c10 2)])] fun v50 =>
            .op (.append 3 40) [(g c0 0), v50] fun v51 =>
            .op (.int .add) [(g c0 1), (I 1)] fun v52 =>
            .ret .normal [v51, v52])))))) (
       .op (.int .eql) [v900, (I 2)] fun v53 =>
       .cnd v53 (
        .pcall 109 [(S [120,108,105,110,107,58,97,99,116,117,97,116,101,32,120,108,105,110,107,58,97,114,99,114,111,108,101,32,120,108,105,110,107,58,104,114,101,102,32,120,108,105,110,107,58,114,111,108,101,32,120,108,105,110,107,58,115,104,111,119,32,120,108,105,110,107,58,116,105,116,108,101,32,120,108,105,110,107,58,116,121,112,101]), (g c16 0)] fun v54 =>
        .cnd v54 (
         .op (.slc 0 true true false) [(g c16 0), (I 6)] fun v55 =>
         .cells 1 (I 4) fun c56 =>
         .cells 1 v55 fun c57 =>
         .op (.mksl 3) [(.agg [(g c56 0), (g c57 0), (g c10 2)])] fun v58 =>
         .op (.append 3 40) [(g c0 0), v58] fun v59 =>
         .op (.int .add) [(g c0 1), (I 1)] fun v60 =>
         .ret .normal [v59, v60]) (
         .op (.str .eql) [(g c16 0), (S [120,109,108,58,108,97,110,103])] fun v61 =>
         .cnd v61 (
          .op (.slc 0 true true false) [(g c16 0), (I 4)] fun v62 =>
          .cells 1 (I 5) fun c63 =>
          .cells 1 v62 fun c64 =>
          .op (.mksl 3) [(.agg [(g c63 0), (g c64 0), (g c10 2)])] fun v65 =>
          .op (.append 3 40) [(g c0 0), v65] fun v66 =>
          .op (.int .add) [(g c0 1), (I 1)] fun v67 =>
          .ret .normal [v66, v67]) (
          .op (.str .eql) [(g c16 0), (S [120,109,108,58,115,112,97,99,101])] fun v68 =>
          .cnd v68 (
           .op (.slc 0 true true false) [(g c16 0), (I 4)] fun v69 =>
           .cells 1 (I 5) fun c70 =>
           .cells 1 v69 fun c71 =>
           .op (.mksl 3) [(.agg [(g c70 0), (g c71 0), (g c10 2)])] fun v72 =>
           .op (.append 3 40) [(g c0 0), v72] fun v73 =>
           .op (.int .add) [(g c0 1), (I 1)] fun v74 =>
           .ret .normal [v73, v74]) (
           .op (.str .eql) [(g c16 0), (S [120,109,108,110,115])] fun v75 =>
           .cnd v75 (
            .cells 1 (I 6) fun c76 =>
            .op (.mksl 3) [(.agg [(g c76 0), (g c16 0), (g c10 2)])] fun v77 =>
            .op (.append 3 40) [(g c0 0), v77] fun v78 =>
            .op (.int .add) [(g c0 1), (I 1)] fun v79 =>
            .ret .normal [v78, v79]) (
            .op (.str .eql) [(g c16 0), (S [120,109,108,110,115,58,120,108,105,110,107])] fun v80 =>
            .cnd v80 (
             .cells 1 (I 6) fun c81 =>
             .cells 1 (S [120,108,105,110,107]) fun c82 =>
             .op (.mksl 3) [(.agg [(g c81 0), (g c82 0), (g c10 2)])] fun v83 =>
             .op (.append 3 40) [(g c0 0), v83] fun v84 =>
             .op (.int .add) [(g c0 1), (I 1)] fun v85 =>
             .ret .normal [v84, v85]) (
             .op (.mksl 3) [(.agg [(g c10 0), (g c16 0), (g c10 2)])] fun v86 =>
             .op (.append 3 40) [(g c0 0), v86] fun v87 =>
             .op (.int .add) [(g c0 1), (I 1)] fun v88 =>
             .ret .normal [v87, v88])))))) (
        .op (.mksl 3) [(.agg [(g c10 0), (g c16 0), (g c10 2)])] fun v89 =>
        .op (.append 3 40) [(g c0 0), v89] fun v90 =>
        .op (.int .add) [(g c0 1), (I 1)] fun v91 =>
        .ret .normal [v90, v91]))) (
      .op (.int .eql) [v900, (I 3)] fun v92 =>
      .cnd v92 (
       .pcall 109 [(S [120,108,105,110,107,58,97,99,116,117,97,116,101,32,120,108,105,110,107,58,97,114,99,114,111,108,101,32,120,108,105,110,107,58,104,114,101,102,32,120,108,105,110,107,58,114,111,108,101,32,120,108,105,110,107,58,115,104,111,119,32,120,108,105,110,107,58,116,105,116,108,101,32,120,108,105,110,107,58,116,121,112,101]), (g c13 0)] fun v93 =>
       .cnd v93 (
        .op (.slc 0 true true false) [(g c13 0), (I 6)] fun v94 =>
        .cells 1 (I 4) fun c95 =>
        .cells 1 v94 fun c96 =>
        .op (.mksl 3) [(.agg [(g c95 0), (g c96 0), (g c10 2)])] fun v97 =>
        .op (.append 3 40) [(g c0 0), v97] fun v98 =>
        .op (.int .add) [(g c0 1), (I 1)] fun v99 =>
        .ret .normal [v98, v99]) (
        .op (.str .eql) [(g c13 0), (S [120,109,108,58,108,97,110,103])] fun v100 =>
        .cnd v100 (
         .op (.slc 0 true true false) [(g c13 0), (I 4)] fun v101 =>
         .cells 1 (I 5) fun c102 =>
         .cells 1 v101 fun c103 =>
         .op (.mksl 3) [(.agg [(g c102 0), (g c103 0), (g c10 2)])] fun v104 =>
         .op (.append 3 40) [(g c0 0), v104] fun v105 =>
         .op (.int .add) [(g c0 1), (I 1)] fun v106 =>
         .ret .normal [v105, v106]) (
         .op (.str .eql) [(g c13 0), (S [120,109,108,58,115,112,97,99,101])] fun v107 =>
         .cnd v107 (
          .op (.slc 0 true true false) [(g c13 0), (I 4)] fun v108 =>
          .cells 1 (I 5) fun c109 =>
          .cells 1 v108 fun c110 =>
          .op (.mksl 3) [(.agg [(g c109 0), (g c110 0), (g c10 2)])] fun v111 =>
          .op (.append 3 40) [(g c0 0), v111] fun v112 =>
          .op (.int .add) [(g c0 1), (I 1)] fun v113 =>
          .ret .normal [v112, v113]) (
          .op (.str .eql) [(g c13 0), (S [120,109,108,110,115])] fun v114 =>
          .cnd v114 (
           .cells 1 (I 6) fun c115 =>
           .op (.mksl 3) [(.agg [(g c115 0), (g c13 0), (g c10 2)])] fun v116 =>
           .op (.append 3 40) [(g c0 0), v116] fun v117 =>
           .op (.int .add) [(g c0 1), (I 1)] fun v118 =>
           .ret .normal [v117, v118]) (
           .op (.str .eql) [(g c13 0), (S [120,109,108,110,115,58,120,108,105,110,107])] fun v119 =>
           .cnd v119 (
            .cells 1 (I 6) fun c120 =>
            .cells 1 (S [120,108,105,110,107]) fun c121 =>
            .op (.mksl 3) [(.agg [(g c120 0), (g c121 0), (g c10 2)])] fun v122 =>
            .op (.append 3 40) [(g c0 0), v122] fun v123 =>
            .op (.int .add) [(g c0 1), (I 1)] fun v124 =>
            .ret .normal [v123, v124]) (
            .op (.mksl 3) [(.agg [(g c10 0), (g c13 0), (g c10 2)])] fun v125 =>
            .op (.append 3 40) [(g c0 0), v125] fun v126 =>
            .op (.int .add) [(g c0 1), (I 1)] fun v127 =>
            .ret .normal [v126, v127])))))) (
       .op (.int .eql) [v900, (I 2)] fun v128 =>
       .cnd v128 (
        .pcall 109 [(S [120,108,105,110,107,58,97,99,116,117,97,116,101,32,120,108,105,110,107,58,97,114,99,114,111,108,101,32,120,108,105,110,107,58,104,114,101,102,32,120,108,105,110,107,58,114,111,108,101,32,120,108,105,110,107,58,115,104,111,119,32,120,108,105,110,107,58,116,105,116,108,101,32,120,108,105,110,107,58,116,121,112,101]), (g c13 0)] fun v129 =>
        .cnd v129 (
         .op (.slc 0 true true false) [(g c13 0), (I 6)] fun v130 =>
         .cells 1 (I 4) fun c131 =>
         .cells 1 v130 fun c132 =>
         .op (.mksl 3) [(.agg [(g c131 0), (g c132 0), (g c10 2)])] fun v133 =>
         .op (.append 3 40) [(g c0 0), v133] fun v134 =>
         .op (.int .add) [(g c0 1), (I 1)] fun v135 =>
         .ret .normal [v134, v135]) (
         .op (.str .eql) [(g c13 0), (S [120,109,108,58,108,97,110,103])] fun v136 =>
         .cnd v136 (
          .op (.slc 0 true true false) [(g c13 0), (I 4)] fun v137 =>
          .cells 1 (I 5) fun c138 =>
          .cells 1 v137 fun c139 =>
          .op (.mksl 3) [(.agg [(g c138 0), (g c139 0), (g c10 2)])] fun v140 =>
          .op (.append 3 40) [(g c0 0), v140] fun v141 =>
          .op (.int .add) [(g c0 1), (I 1)] fun v142 =>
          .ret .normal [v141, v142]) (
          .op (.str .eql) [(g c13 0), (S [120,109,108,58,115,112,97,99,101])] fun v143 =>
          .cnd v143 (
           .op (.slc 0 true true false) [(g c13 0), (I 4)] fun v144 =>
           .cells 1 (I 5) fun c145 =>
           .cells 1 v144 fun c146 =>
           .op (.mksl 3) [(.agg [(g c145 0), (g c146 0), (g c10 2)])] fun v147 =>
           .op (.append 3 40) [(g c0 0), v147] fun v148 =>
           .op (.int .add) [(g c0 1), (I 1)] fun v149 =>
           .ret .normal [v148, v149]) (
           .op (.str .eql) [(g c13 0), (S [120,109,108,110,115])] fun v150 =>
           .cnd v150 (
            .cells 1 (I 6) fun c151 =>
            .op (.mksl 3) [(.agg [(g c151 0), (g c13 0), (g c10 2)])] fun v152 =>
            .op (.append 3 40) [(g c0 0), v152] fun v153 =>
            .op (.int .add) [(g c0 1), (I 1)] fun v154 =>
            .ret .normal [v153, v154]) (
            .op (.str .eql) [(g c13 0), (S [120,109,108,110,115,58,120,108,105,110,107])] fun v155 =>
            .cnd v155 (
             .cells 1 (I 6) fun c156 =>
             .cells 1 (S [120,108,105,110,107]) fun c157 =>
             .op (.mksl 3) [(.agg [(g c156 0), (g c157 0), (g c10 2)])] fun v158 =>
             .op (.append 3 40) [(g c0 0), v158] fun v159 =>
             .op (.int .add) [(g c0 1), (I 1)] fun v160 =>
             .ret .normal [v159, v160]) (
             .op (.mksl 3) [(.agg [(g c10 0), (g c13 0), (g c10 2)])] fun v161 =>
             .op (.append 3 40) [(g c0 0), v161] fun v162 =>
             .op (.int .add) [(g c0 1), (I 1)] fun v163 =>
             .ret .normal [v162, v163])))))) (
        .op (.mksl 3) [(.agg [(g c10 0), (g c13 0), (g c10 2)])] fun v164 =>
        .op (.append 3 40) [(g c0 0), v164] fun v165 =>
        .op (.int .add) [(g c0 1), (I 1)] fun v166 =>
        .ret .normal [v165, v166])))) (
     .op (.int .eql) [v900, (I 2)] fun v167 =>
     .cnd v167 (
      .pcall 117 [(S [97,116,116,114,105,98,117,116,101,78,97,109,101,32,97,116,116,114,105,98,117,116,101,84,121,112,101,32,98,97,115,101,70,114,101,113,117,101,110,99,121,32,98,97,115,101,80,114,111,102,105,108,101,32,99,97,108,99,77,111,100,101,32,99,108,105,112,80,97,116,104,85,110,105,116,115,32,100,105,102,102,117,115,101,67,111,110,115,116,97,110,116,32,101,100,103,101,77,111,100,101,32,102,105,108,116,101,114,85,110,105,116,115,32,103,108,121,112,104,82,101,102,32,103,114,97,100,105,101,110,116,84,114,97,110,115,102,111,114,109,32,103,114,97,100,105,101,110,116,85,110,105,116,115,32,107,101,114,110,101,108,77,97,116,114,105,120,32,107,101,114,110,101,108,85,110,105,116,76,101,110,103,116,104,32,107,101,121,80,111,105,110,116,115,32,107,101,121,83,112,108,105,110,101,115,32,107,101,121,84,105,109,101,115,32,108,101,110,103,116,104,65,100,106,117,115,116,32,108,105,109,105,116,105,110,103,67,111,110,101,65,110,103,108,101,32,109,97,114,107,101,114,72,101,105,103,104,116,32,109,97,114,107,101,114,85,110,105,116,115,32,109,97,114,107,101,114,87,105,100,116,104,32,109,97,115,107,67,111,110,116,101,110,116,85,110,105,116,115,32,109,97,115,107,85,110,105,116,115,32,110,117,109,79,99,116,97,118,101,115,32,112,97,116,104,76,101,110,103,116,104,32,112,97,116,116,101,114,110,67,111,110,116,101,110,116,85,110,105,116,115,32,112,97,116,116,101,114,110,84,114,97,110,115,102,111,114,109,32,112,97,116,116,101,114,110,85,110,105,116,115,32,112,111,105,110,116,115,65,116,88,32,112,111,105,110,116,115,65,116,89,32,112,111,105,110,116,115,65,116,90,32,112,114,101,115,101,114,118,101,65,108,112,104,97,32,112,114,101,115,101,114,118,101,65,115,112,101,99,116,82,97,116,105,111,32,112,114,105,109,105,116,105,118,101,85,110,105,116,115,32,114,101,102,88,32,114,101,102,89,32,114,101,112,101,97,116,67,111,117,110,116,32,114,101,112,101,97,116,68,117,114,32,114,101,113,117,105,114,101,100,69,120,116,101,110,115,105,111,110,115,32,114,101,113,117,105,114,101,100,70,101,97,116,117,114,101,115,32,115,112,101,99,117,108,97,114,67,111,110,115,116,97,110,116,32,115,112,101,99,117,108,97,114,69,120,112,111,110,101,110,116,32,115,112,114,101,97,100,77,101,116,104,111,100,32,115,116,97,114,116,79,102,102,115,101,116,32,115,116,100,68,101,118,105,97,116,105,111,110,32,115,116,105,116,99,104,84,105,108,101,115,32,115,117,114,102,97,99,101,83,99,97,108,101,32,115,121,115,116,101,109,76,97,110,103,117,97,103,101,32,116,97,98,108,101,86,97,108,117,101,115,32,116,97,114,103,101,116,88,32,116,97,114,103,101,116,89,32,116,101,120,116,76,101,110,103,116,104,32,118,105,101,119,66,111,120,32,118,105,101,119,84,97,114,103,101,116,32,120,67,104,97,110,110,101,108,83,101,108,101,99,116,111,114,32,121,67,104,97,110,110,101,108,83,101,108,101,99,116,111,114,32,122,111,111,109,65,110,100,80,97,110]), (g c10 1)] fun v168 =>
      .cells 1 v168 fun c169 =>
      .op (.int .eql) [v900, (I 3)] fun v170 =>
      .cnd v170 (
       .pcall 109 [(S [120,108,105,110,107,58,97,99,116,117,97,116,101,32,120,108,105,110,107,58,97,114,99,114,111,108,101,32,120,108,105,110,107,58,104,114,101,102,32,120,108,105,110,107,58,114,111,108,101,32,120,108,105,110,107,58,115,104,111,119,32,120,108,105,110,107,58,116,105,116,108,101,32,120,108,105,110,107,58,116,121,112,101]), (g c169 0)] fun v171 =>
       .cnd v171 (
        .op (.slc 0 true true false) [(g c169 0), (I 6)] fun v172 =>
        .cells 1 (I 4) fun c173 =>
        .cells 1 v172 fun c174 =>
        .op (.mksl 3) [(.agg [(g c173 0), (g c174 0), (g c10 2)])] fun v175 =>
        .op (.append 3 40) [(g c0 0), v175] fun v176 =>
        .op (.int .add) [(g c0 1), (I 1)] fun v177 =>
        .ret .normal [v176, v177]) (
        .op (.str .eql) [(g c169 0), (S [120,109,108,58,108,97,110,103])] fun v178 =>
        .cnd v178 (
         .op (.slc 0 true true false) [(g c169 0), (I 4)] fun v179 =>
         .cells 1 (I 5) fun c180 =>
         .cells 1 v179 fun c181 =>
         .op (.mksl 3) [(.agg [(g c180 0), (g c181 0), (g c10 2)])] fun v182 =>
         .op (.append 3 40) [(g c0 0), v182] fun v183 =>
         .op (.int .add) [(g c0 1), (I 1)] fun v184 =>
         .ret .normal [v183, v184]) (
         .op (.str .eql) [(g c169 0), (S [120,109,108,58,115,112,97,99,101])] fun v185 =>
         .cnd v185 (
          .op (.slc 0 true true false) [(g c169 0), (I 4)] fun v186 =>
          .cells 1 (I 5) fun c187 =>
          .cells 1 v186 fun c188 =>
          .op (.mksl 3) [(.agg [(g c187 0), (g c188 0), (g c10 2)])] fun v189 =>
          .op (.append 3 40) [(g c0 0), v189] fun v190 =>
          .op (.int .add) [(g c0 1), (I 1)] fun v191 =>
          .ret .normal [v190, v191]) (
          .op (.str .eql) [(g c169 0), (S [120,109,108,110,115])] fun v192 =>
          .cnd v192 (
           .cells 1 (I 6) fun c193 =>
           .op (.mksl 3) [(.agg [(g c193 0), (g c169 0), (g c10 2)])] fun v194 =>
           .op (.append 3 40) [(g c0 0), v194] fun v195 =>
           .op (.int .add) [(g c0 1), (I 1)] fun v196 =>
           .ret .normal [v195, v196]) (
           .op (.str .eql) [(g c169 0), (S [120,109,108,110,115,58,120,108,105,110,107])] fun v197 =>
           .cnd v197 (
            .cells 1 (I 6) fun c198 =>
            .cells 1 (S [120,108,105,110,107]) fun c199 =>
            .op (.mksl 3) [(.agg [(g c198 0), (g c199 0), (g c10 2)])] fun v200 =>
            .op (.append 3 40) [(g c0 0), v200] fun v201 =>
            .op (.int .add) [(g c0 1), (I 1)] fun v202 =>
            .ret .normal [v201, v202]) (
            .op (.mksl 3) [(.agg [(g c10 0), (g c169 0), (g c10 2)])] fun v203 =>
            .op (.append 3 40) [(g c0 0), v203] fun v204 =>
            .op (.int .add) [(g c0 1), (I 1)] fun v205 =>
            .ret .normal [v204, v205])))))) (
       .op (.int .eql) [v900, (I 2)] fun v206 =>
       .cnd v206 (
        .pcall 109 [(S [120,108,105,110,107,58,97,99,116,117,97,116,101,32,120,108,105,110,107,58,97,114,99,114,111,108,101,32,120,108,105,110,107,58,104,114,101,102,32,120,108,105,110,107,58,114,111,108,101,32,120,108,105,110,107,58,115,104,111,119,32,120,108,105,110,107,58,116,105,116,108,101,32,120,108,105,110,107,58,116,121,112,101]), (g c169 0)] fun v207 =>
        .cnd v207 (
         .op (.slc 0 true true false) [(g c169 0), (I 6)] fun v208 =>
         .cells 1 (I 4) fun c209 =>
         .cells 1 v208 fun c210 =>
         .op (.mksl 3) [(.agg [(g c209 0), (g c210 0), (g c10 2)])] fun v211 =>
         .op (.append 3 40) [(g c0 0), v211] fun v212 =>
         .op (.int .add) [(g c0 1), (I 1)] fun v213 =>
         .ret .normal [v212, v213]) (
         .op (.str .eql) [(g c169 0), (S [120,109,108,58,108,97,110,103])] fun v214 =>
         .cnd v214 (
          .op (.slc 0 true true false) [(g c169 0), (I 4)] fun v215 =>
          .cells 1 (I 5) fun c216 =>
          .cells 1 v215 fun c217 =>
          .op (.mksl 3) [(.agg [(g c216 0), (g c217 0), (g c10 2)])] fun v218 =>
          .op (.append 3 40) [(g c0 0), v218] fun v219 =>
          .op (.int .add) [(g c0 1), (I 1)] fun v220 =>
          .ret .normal [v219, v220]) (
          .op (.str .eql) [(g c169 0), (S [120,109,108,58,115,112,97,99,101])] fun v221 =>
          .cnd v221 (
           .op (.slc 0 true true false) [(g c169 0), (I 4)] fun v222 =>
           .cells 1 (I 5) fun c223 =>
           .cells 1 v222 fun c224 =>
           .op (.mksl 3) [(.agg [(g c223 0), (g c224 0), (g c10 2)])] fun v225 =>
           .op (.append 3 40) [(g c0 0), v225] fun v226 =>
           .op (.int .add) [(g c0 1), (I 1)] fun v227 =>
           .ret .normal [v226, v227]) (
           .op (.str .eql) [(g c169 0), (S [120,109,108,110,115])] fun v228 =>
           .cnd v228 (
            .cells 1 (I 6) fun c229 =>
            .op (.mksl 3) [(.agg [(g c229 0), (g c169 0), (g c10 2)])] fun v230 =>
            .op (.append 3 40) [(g c0 0), v230] fun v231 =>
            .op (.int .add) [(g c0 1), (I 1)] fun v232 =>
            .ret .normal [v231, v232]) (
            .op (.str .eql) [(g c169 0), (S [120,109,108,110,115,58,120,108,105,110,107])] fun v233 =>
            .cnd v233 (
             .cells 1 (I 6) fun c234 =>
             .cells 1 (S [120,108,105,110,107]) fun c235 =>
             .op (.mksl 3) [(.agg [(g c234 0), (g c235 0), (g c10 2)])] fun v236 =>
             .op (.append 3 40) [(g c0 0), v236] fun v237 =>
             .op (.int .add) [(g c0 1), (I 1)] fun v238 =>
             .ret .normal [v237, v238]) (
             .op (.mksl 3) [(.agg [(g c10 0), (g c169 0), (g c10 2)])] fun v239 =>
             .op (.append 3 40) [(g c0 0), v239] fun v240 =>
             .op (.int .add) [(g c0 1), (I 1)] fun v241 =>
             .ret .normal [v240, v241])))))) (
        .op (.mksl 3) [(.agg [(g c10 0), (g c169 0), (g c10 2)])] fun v242 =>
        .op (.append 3 40) [(g c0 0), v242] fun v243 =>
        .op (.int .add) [(g c0 1), (I 1)] fun v244 =>
        .ret .normal [v243, v244]))) (
      .op (.int .eql) [v900, (I 3)] fun v245 =>
      .cnd v245 (
       .pcall 109 [(S [120,108,105,110,107,58,97,99,116,117,97,116,101,32,120,108,105,110,107,58,97,114,99,114,111,108,101,32,120,108,105,110,107,58,104,114,101,102,32,120,108,105,110,107,58,114,111,108,101,32,120,108,105,110,107,58,115,104,111,119,32,120,108,105,110,107,58,116,105,116,108,101,32,120,108,105,110,107,58,116,121,112,101]), (g c10 1)] fun v246 =>
       .cnd v246 (
        .op (.slc 0 true true false) [(g c10 1), (I 6)] fun v247 =>
        .cells 1 (I 4) fun c248 =>
        .cells 1 v247 fun c249 =>
        .op (.mksl 3) [(.agg [(g c248 0), (g c249 0), (g c10 2)])] fun v250 =>
        .op (.append 3 40) [(g c0 0), v250] fun v251 =>
        .op (.int .add) [(g c0 1), (I 1)] fun v252 =>
        .ret .normal [v251, v252]) (
        .op (.str .eql) [(g c10 1), (S [120,109,108,58,108,97,110,103])] fun v253 =>
        .cnd v253 (
         .op (.slc 0 true true false) [(g c10 1), (I 4)] fun v254 =>
         .cells 1 (I 5) fun c255 =>
         .cells 1 v254 fun c256 =>
         .op (.mksl 3) [(.agg [(g c255 0), (g c256 0), (g c10 2)])] fun v257 =>
         .op (.append 3 40) [(g c0 0), v257] fun v258 =>
         .op (.int .add) [(g c0 1), (I 1)] fun v259 =>
         .ret .normal [v258, v259]) (
         .op (.str .eql) [(g c10 1), (S [120,109,108,58,115,112,97,99,101])] fun v260 =>
         .cnd v260 (
          .op (.slc 0 true true false) [(g c10 1), (I 4)] fun v261 =>
          .cells 1 (I 5) fun c262 =>
          .cells 1 v261 fun c263 =>
          .op (.mksl 3) [(.agg [(g c262 0), (g c263 0), (g c10 2)])] fun v264 =>
          .op (.append 3 40) [(g c0 0), v264] fun v265 =>
          .op (.int .add) [(g c0 1), (I 1)] fun v266 =>
          .ret .normal [v265, v266]) (
          .op (.str .eql) [(g c10 1), (S [120,109,108,110,115])] fun v267 =>
          .cnd v267 (
           .cells 1 (I 6) fun c268 =>
           .op (.mksl 3) [(.agg [(g c268 0), (g c10 1), (g c10 2)])] fun v269 =>
           .op (.append 3 40) [(g c0 0), v269] fun v270 =>
           .op (.int .add) [(g c0 1), (I 1)] fun v271 =>
           .ret .normal [v270, v271]) (
           .op (.str .eql) [(g c10 1), (S [120,109,108,110,115,58,120,108,105,110,107])] fun v272 =>
           .cnd v272 (
            .cells 1 (I 6) fun c273 =>
            .cells 1 (S [120,108,105,110,107]) fun c274 =>
            .op (.mksl 3) [(.agg [(g c273 0), (g c274 0), (g c10 2)])] fun v275 =>
            .op (.append 3 40) [(g c0 0), v275] fun v276 =>
            .op (.int .add) [(g c0 1), (I 1)] fun v277 =>
            .ret .normal [v276, v277]) (
            .op (.mksl 3) [(.agg [(g c10 0), (g c10 1), (g c10 2)])] fun v278 =>
            .op (.append 3 40) [(g c0 0), v278] fun v279 =>
            .op (.int .add) [(g c0 1), (I 1)] fun v280 =>
            .ret .normal [v279, v280])))))) (
       .op (.int .eql) [v900, (I 2)] fun v281 =>
       .cnd v281 (
        .pcall 109 [(S [120,108,105,110,107,58,97,99,116,117,97,116,101,32,120,108,105,110,107,58,97,114,99,114,111,108,101,32,120,108,105,110,107,58,104,114,101,102,32,120,108,105,110,107,58,114,111,108,101,32,120,108,105,110,107,58,115,104,111,119,32,120,108,105,110,107,58,116,105,116,108,101,32,120,108,105,110,107,58,116,121,112,101]), (g c10 1)] fun v282 =>
        .cnd v282 (
         .op (.slc 0 true true false) [(g c10 1), (I 6)] fun v283 =>
         .cells 1 (I 4) fun c284 =>
         .cells 1 v283 fun c285 =>
         .op (.mksl 3) [(.agg [(g c284 0), (g c285 0), (g c10 2)])] fun v286 =>
         .op (.append 3 40) [(g c0 0), v286] fun v287 =>
         .op (.int .add) [(g c0 1), (I 1)] fun v288 =>
         .ret .normal [v287, v288]) (
         .op (.str .eql) [(g c10 1), (S [120,109,108,58,108,97,110,103])] fun v289 =>
         .cnd v289 (
          .op (.slc 0 true true false) [(g c10 1), (I 4)] fun v290 =>
          .cells 1 (I 5) fun c291 =>
          .cells 1 v290 fun c292 =>
          .op (.mksl 3) [(.agg [(g c291 0), (g c292 0), (g c10 2)])] fun v293 =>
          .op (.append 3 40) [(g c0 0), v293] fun v294 =>
          .op (.int .add) [(g c0 1), (I 1)] fun v295 =>
          .ret .normal [v294, v295]) (
          .op (.str .eql) [(g c10 1), (S [120,109,108,58,115,112,97,99,101])] fun v296 =>
          .cnd v296 (
           .op (.slc 0 true true false) [(g c10 1), (I 4)] fun v297 =>
           .cells 1 (I 5) fun c298 =>
           .cells 1 v297 fun c299 =>
           .op (.mksl 3) [(.agg [(g c298 0), (g c299 0), (g c10 2)])] fun v300 =>
           .op (.append 3 40) [(g c0 0), v300] fun v301 =>
           .op (.int .add) [(g c0 1), (I 1)] fun v302 =>
           .ret .normal [v301, v302]) (
           .op (.str .eql) [(g c10 1), (S [120,109,108,110,115])] fun v303 =>
           .cnd v303 (
            .cells 1 (I 6) fun c304 =>
            .op (.mksl 3) [(.agg [(g c304 0), (g c10 1), (g c10 2)])] fun v305 =>
            .op (.append 3 40) [(g c0 0), v305] fun v306 =>
            .op (.int .add) [(g c0 1), (I 1)] fun v307 =>
            .ret .normal [v306, v307]) (
            .op (.str .eql) [(g c10 1), (S [120,109,108,110,115,58,120,108,105,110,107])] fun v308 =>
            .cnd v308 (
             .cells 1 (I 6) fun c309 =>
             .cells 1 (S [120,108,105,110,107]) fun c310 =>
             .op (.mksl 3) [(.agg [(g c309 0), (g c310 0), (g c10 2)])] fun v311 =>
             .op (.append 3 40) [(g c0 0), v311] fun v312 =>
             .op (.int .add) [(g c0 1), (I 1)] fun v313 =>
             .ret .normal [v312, v313]) (
             .op (.mksl 3) [(.agg [(g c10 0), (g c10 1), (g c10 2)])] fun v314 =>
             .op (.append 3 40) [(g c0 0), v314] fun v315 =>
             .op (.int .add) [(g c0 1), (I 1)] fun v316 =>
             .ret .normal [v315, v316])))))) (
        .op (.mksl 3) [(.agg [(g c10 0), (g c10 1), (g c10 2)])] fun v317 =>
        .op (.append 3 40) [(g c0 0), v317] fun v318 =>
        .op (.int .add) [(g c0 1), (I 1)] fun v319 =>
        .ret .normal [v318, v319]))))) (
    .op (.int .eql) [v900, (I 2)] fun v320 =>
    .cnd v320 (
     .pcall 117 [(S [97,116,116,114,105,98,117,116,101,78,97,109,101,32,97,116,116,114,105,98,117,116,101,84,121,112,101,32,98,97,115,101,70,114,101,113,117,101,110,99,121,32,98,97,115,101,80,114,111,102,105,108,101,32,99,97,108,99,77,111,100,101,32,99,108,105,112,80,97,116,104,85,110,105,116,115,32,100,105,102,102,117,115,101,67,111,110,115,116,97,110,116,32,101,100,103,101,77,111,100,101,32,102,105,108,116,101,114,85,110,105,116,115,32,103,108,121,112,104,82,101,102,32,103,114,97,100,105,101,110,116,84,114,97,110,115,102,111,114,109,32,103,114,97,100,105,101,110,116,85,110,105,116,115,32,107,101,114,110,101,108,77,97,116,114,105,120,32,107,101,114,110,101,108,85,110,105,116,76,101,110,103,116,104,32,107,101,121,80,111,105,110,116,115,32,107,101,121,83,112,108,105,110,101,115,32,107,101,121,84,105,109,101,115,32,108,101,110,103,116,104,65,100,106,117,115,116,32,108,105,109,105,116,105,110,103,67,111,110,101,65,110,103,108,101,32,109,97,114,107,101,114,72,101,105,103,104,116,32,109,97,114,107,101,114,85,110,105,116,115,32,109,97,114,107,101,114,87,105,100,116,104,32,109,97,115,107,67,111,110,116,101,110,116,85,110,105,116,115,32,109,97,115,107,85,110,105,116,115,32,110,117,109,79,99,116,97,118,101,115,32,112,97,116,104,76,101,110,103,116,104,32,112,97,116,116,101,114,110,67,111,110,116,101,110,116,85,110,105,116,115,32,112,97,116,116,101,114,110,84,114,97,110,115,102,111,114,109,32,112,97,116,116,101,114,110,85,110,105,116,115,32,112,111,105,110,116,115,65,116,88,32,112,111,105,110,116,115,65,116,89,32,112,111,105,110,116,115,65,116,90,32,112,114,101,115,101,114,118,101,65,108,112,104,97,32,112,114,101,115,101,114,118,101,65,115,112,101,99,116,82,97,116,105,111,32,112,114,105,109,105,116,105,118,101,85,110,105,116,115,32,114,101,102,88,32,114,101,102,89,32,114,101,112,101,97,116,67,111,117,110,116,32,114,101,112,101,97,116,68,117,114,32,114,101,113,117,105,114,101,100,69,120,116,101,110,115,105,111,110,115,32,114,101,113,117,105,114,101,100,70,101,97,116,117,114,101,115,32,115,112,101,99,117,108,97,114,67,111,110,115,116,97,110,116,32,115,112,101,99,117,108,97,114,69,120,112,111,110,101,110,116,32,115,112,114,101,97,100,77,101,116,104,111,100,32,115,116,97,114,116,79,102,102,115,101,116,32,115,116,100,68,101,118,105,97,116,105,111,110,32,115,116,105,116,99,104,84,105,108,101,115,32,115,117,114,102,97,99,101,83,99,97,108,101,32,115,121,115,116,101,109,76,97,110,103,117,97,103,101,32,116,97,98,108,101,86,97,108,117,101,115,32,116,97,114,103,101,116,88,32,116,97,114,103,101,116,89,32,116,101,120,116,76,101,110,103,116,104,32,118,105,101,119,66,111,120,32,118,105,101,119,84,97,114,103,101,116,32,120,67,104,97,110,110,101,108,83,101,108,101,99,116,111,114,32,121,67,104,97,110,110,101,108,83,101,108,101,99,116,111,114,32,122,111,111,109,65,110,100,80,97,110]), (g c10 1)] fun v321 =>
     .cells 1 v321 fun c322 =>
     .op (.int .eql) [v900, (I 3)] fun v323 =>
     .cnd v323 (
      .pcall 109 [(S [120,108,105,110,107,58,97,99,116,117,97,116,101,32,120,108,105,110,107,58,97,114,99,114,111,108,101,32,120,108,105,110,107,58,104,114,101,102,32,120,108,105,110,107,58,114,111,108,101,32,120,108,105,110,107,58,115,104,111,119,32,120,108,105,110,107,58,116,105,116,108,101,32,120,108,105,110,107,58,116,121,112,101]), (g c322 0)] fun v324 =>
      .cnd v324 (
       .op (.slc 0 true true false) [(g c322 0), (I 6)] fun v325 =>
       .cells 1 (I 4) fun c326 =>
       .cells 1 v325 fun c327 =>
       .op (.mksl 3) [(.agg [(g c326 0), (g c327 0), (g c10 2)])] fun v328 =>
       .op (.append 3 40) [(g c0 0), v328] fun v329 =>
       .op (.int .add) [(g c0 1), (I 1)] fun v330 =>
       .ret .normal [v329, v330]) (
       .op (.str .eql) [(g c322 0), (S [120,109,108,58,108,97,110,103])] fun v331 =>
       .cnd v331 (
        .op (.slc 0 true true false) [(g c322 0), (I 4)] fun v332 =>
        .cells 1 (I 5) fun c333 =>
        .cells 1 v332 fun c334 =>
        .op (.mksl 3) [(.agg [(g c333 0), (g c334 0), (g c10 2)])] fun v335 =>
        .op (.append 3 40) [(g c0 0), v335] fun v336 =>
        .op (.int .add) [(g c0 1), (I 1)] fun v337 =>
        .ret .normal [v336, v337]) (
        .op (.str .eql) [(g c322 0), (S [120,109,108,58,115,112,97,99,101])] fun v338 =>
        .cnd v338 (
         .op (.slc 0 true true false) [(g c322 0), (I 4)] fun v339 =>
         .cells 1 (I 5) fun c340 =>
         .cells 1 v339 fun c341 =>
         .op (.mksl 3) [(.agg [(g c340 0), (g c341 0), (g c10 2)])] fun v342 =>
         .op (.append 3 40) [(g c0 0), v342] fun v343 =>
         .op (.int .add) [(g c0 1), (I 1)] fun v344 =>
         .ret .normal [v343, v344]) (
         .op (.str .eql) [(g c322 0), (S [120,109,108,110,115])] fun v345 =>
         .cnd v345 (
          .cells 1 (I 6) fun c346 =>
          .op (.mksl 3) [(.agg [(g c346 0), (g c322 0), (g c10 2)])] fun v347 =>
          .op (.append 3 40) [(g c0 0), v347] fun v348 =>
          .op (.int .add) [(g c0 1), (I 1)] fun v349 =>
          .ret .normal [v348, v349]) (
          .op (.str .eql) [(g c322 0), (S [120,109,108,110,115,58,120,108,105,110,107])] fun v350 =>
          .cnd v350 (
           .cells 1 (I 6) fun c351 =>
           .cells 1 (S [120,108,105,110,107]) fun c352 =>
           .op (.mksl 3) [(.agg [(g c351 0), (g c352 0), (g c10 2)])] fun v353 =>
           .op (.append 3 40) [(g c0 0), v353] fun v354 =>
           .op (.int .add) [(g c0 1), (I 1)] fun v355 =>
           .ret .normal [v354, v355]) (
           .op (.mksl 3) [(.agg [(g c10 0), (g c322 0), (g c10 2)])] fun v356 =>
           .op (.append 3 40) [(g c0 0), v356] fun v357 =>
           .op (.int .add) [(g c0 1), (I 1)] fun v358 =>
           .ret .normal [v357, v358])))))) (
      .op (.int .eql) [v900, (I 2)] fun v359 =>
      .cnd v359 (
       .pcall 109 [(S [120,108,105,110,107,58,97,99,116,117,97,116,101,32,120,108,105,110,107,58,97,114,99,114,111,108,101,32,120,108,105,110,107,58,104,114,101,102,32,120,108,105,110,107,58,114,111,108,101,32,120,108,105,110,107,58,115,104,111,119,32,120,108,105,110,107,58,116,105,116,108,101,32,120,108,105,110,107,58,116,121,112,101]), (g c322 0)] fun v360 =>
       .cnd v360 (
        .op (.slc 0 true true false) [(g c322 0), (I 6)] fun v361 =>
        .cells 1 (I 4) fun c362 =>
        .cells 1 v361 fun c363 =>
        .op (.mksl 3) [(.agg [(g c362 0), (g c363 0), (g c10 2)])] fun v364 =>
        .op (.append 3 40) [(g c0 0), v364] fun v365 =>
        .op (.int .add) [(g c0 1), (I 1)] fun v366 =>
        .ret .normal [v365, v366]) (
        .op (.str .eql) [(g c322 0), (S [120,109,108,58,108,97,110,103])] fun v367 =>
        .cnd v367 (
         .op (.slc 0 true true false) [(g c322 0), (I 4)] fun v368 =>
         .cells 1 (I 5) fun c369 =>
         .cells 1 v368 fun c370 =>
         .op (.mksl 3) [(.agg [(g c369 0), (g c370 0), (g c10 2)])] fun v371 =>
         .op (.append 3 40) [(g c0 0), v371] fun v372 =>
         .op (.int .add) [(g c0 1), (I 1)] fun v373 =>
         .ret .normal [v372, v373]) (
         .op (.str .eql) [(g c322 0), (S [120,109,108,58,115,112,97,99,101])] fun v374 =>
         .cnd v374 (
          .op (.slc 0 true true false) [(g c322 0), (I 4)] fun v375 =>
          .cells 1 (I 5) fun c376 =>
          .cells 1 v375 fun c377 =>
          .op (.mksl 3) [(.agg [(g c376 0), (g c377 0), (g c10 2)])] fun v378 =>
          .op (.append 3 40) [(g c0 0), v378] fun v379 =>
          .op (.int .add) [(g c0 1), (I 1)] fun v380 =>
          .ret .normal [v379, v380]) (
          .op (.str .eql) [(g c322 0), (S [120,109,108,110,115])] fun v381 =>
          .cnd v381 (
           .cells 1 (I 6) fun c382 =>
           .op (.mksl 3) [(.agg [(g c382 0), (g c322 0), (g c10 2)])] fun v383 =>
           .op (.append 3 40) [(g c0 0), v383] fun v384 =>
           .op (.int .add) [(g c0 1), (I 1)] fun v385 =>
           .ret .normal [v384, v385]) (
           .op (.str .eql) [(g c322 0), (S [120,109,108,110,115,58,120,108,105,110,107])] fun v386 =>
           .cnd v386 (
            .cells 1 (I 6) fun c387 =>
            .cells 1 (S [120,108,105,110,107]) fun c388 =>
            .op (.mksl 3) [(.agg [(g c387 0), (g c388 0), (g c10 2)])] fun v389 =>
            .op (.append 3 40) [(g c0 0), v389] fun v390 =>
            .op (.int .add) [(g c0 1), (I 1)] fun v391 =>
            .ret .normal [v390, v391]) (
            .op (.mksl 3) [(.agg [(g c10 0), (g c322 0), (g c10 2)])] fun v392 =>
            .op (.append 3 40) [(g c0 0), v392] fun v393 =>
            .op (.int .add) [(g c0 1), (I 1)] fun v394 =>
            .ret .normal [v393, v394])))))) (
       .op (.mksl 3) [(.agg [(g c10 0), (g c322 0), (g c10 2)])] fun v395 =>
       .op (.append 3 40) [(g c0 0), v395] fun v396 =>
       .op (.int .add) [(g c0 1), (I 1)] fun v397 =>
       .ret .normal [v396, v397]))) (
     .op (.int .eql) [v900, (I 3)] fun v398 =>
     .cnd v398 (
      .pcall 109 [(S [120,108,105,110,107,58,97,99,116,117,97,116,101,32,120,108,105,110,107,58,97,114,99,114,111,108,101,32,120,108,105,110,107,58,104,114,101,102,32,120,108,105,110,107,58,114,111,108,101,32,120,108,105,110,107,58,115,104,111,119,32,120,108,105,110,107,58,116,105,116,108,101,32,120,108,105,110,107,58,116,121,112,101]), (g c10 1)] fun v399 =>
      .cnd v399 (
       .op (.slc 0 true true false) [(g c10 1), (I 6)] fun v400 =>
       .cells 1 (I 4) fun c401 =>
       .cells 1 v400 fun c402 =>
       .op (.mksl 3) [(.agg [(g c401 0), (g c402 0), (g c10 2)])] fun v403 =>
       .op (.append 3 40) [(g c0 0), v403] fun v404 =>
       .op (.int .add) [(g c0 1), (I 1)] fun v405 =>
       .ret .normal [v404, v405]) (
       .op (.str .eql) [(g c10 1), (S [120,109,108,58,108,97,110,103])] fun v406 =>
       .cnd v406 (
        .op (.slc 0 true true false) [(g c10 1), (I 4)] fun v407 =>
        .cells 1 (I 5) fun c408 =>
        .cells 1 v407 fun c409 =>
        .op (.mksl 3) [(.agg [(g c408 0), (g c409 0), (g c10 2)])] fun v410 =>
        .op (.append 3 40) [(g c0 0), v410] fun v411 =>
        .op (.int .add) [(g c0 1), (I 1)] fun v412 =>
        .ret .normal [v411, v412]) (
        .op (.str .eql) [(g c10 1), (S [120,109,108,58,115,112,97,99,101])] fun v413 =>
        .cnd v413 (
         .op (.slc 0 true true false) [(g c10 1), (I 4)] fun v414 =>
         .cells 1 (I 5) fun c415 =>
         .cells 1 v414 fun c416 =>
         .op (.mksl 3) [(.agg [(g c415 0), (g c416 0), (g c10 2)])] fun v417 =>
         .op (.append 3 40) [(g c0 0), v417] fun v418 =>
         .op (.int .add) [(g c0 1), (I 1)] fun v419 =>
         .ret .normal [v418, v419]) (
         .op (.str .eql) [(g c10 1), (S [120,109,108,110,115])] fun v420 =>
         .cnd v420 (
          .cells 1 (I 6) fun c421 =>
          .op (.mksl 3) [(.agg [(g c421 0), (g c10 1), (g c10 2)])] fun v422 =>
          .op (.append 3 40) [(g c0 0), v422] fun v423 =>
          .op (.int .add) [(g c0 1), (I 1)] fun v424 =>
          .ret .normal [v423, v424]) (
          .op (.str .eql) [(g c10 1), (S [120,109,108,110,115,58,120,108,105,110,107])] fun v425 =>
          .cnd v425 (
           .cells 1 (I 6) fun c426 =>
           .cells 1 (S [120,108,105,110,107]) fun c427 =>
           .op (.mksl 3) [(.agg [(g c426 0), (g c427 0), (g c10 2)])] fun v428 =>
           .op (.append 3 40) [(g c0 0), v428] fun v429 =>
           .op (.int .add) [(g c0 1), (I 1)] fun v430 =>
           .ret .normal [v429, v430]) (
           .op (.mksl 3) [(.agg [(g c10 0), (g c10 1), (g c10 2)])] fun v431 =>
           .op (.append 3 40) [(g c0 0), v431] fun v432 =>
           .op (.int .add) [(g c0 1), (I 1)] fun v433 =>
           .ret .normal [v432, v433])))))) (
      .op (.int .eql) [v900, (I 2)] fun v434 =>
      .cnd v434 (
       .pcall 109 [(S [120,108,105,110,107,58,97,99,116,117,97,116,101,32,120,108,105,110,107,58,97,114,99,114,111,108,101,32,120,108,105,110,107,58,104,114,101,102,32,120,108,105,110,107,58,114,111,108,101,32,120,108,105,110,107,58,115,104,111,119,32,120,108,105,110,107,58,116,105,116,108,101,32,120,108,105,110,107,58,116,121,112,101]), (g c10 1)] fun v435 =>
       .cnd v435 (
        .op (.slc 0 true true false) [(g c10 1), (I 6)] fun v436 =>
        .cells 1 (I 4) fun c437 =>
        .cells 1 v436 fun c438 =>
        .op (.mksl 3) [(.agg [(g c437 0), (g c438 0), (g c10 2)])] fun v439 =>
        .op (.append 3 40) [(g c0 0), v439] fun v440 =>
        .op (.int .add) [(g c0 1), (I 1)] fun v441 =>
        .ret .normal [v440, v441]) (
        .op (.str .eql) [(g c10 1), (S [120,109,108,58,108,97,110,103])] fun v442 =>
        .cnd v442 (
         .op (.slc 0 true true false) [(g c10 1), (I 4)] fun v443 =>
         .cells 1 (I 5) fun c444 =>
         .cells 1 v443 fun c445 =>
         .op (.mksl 3) [(.agg [(g c444 0), (g c445 0), (g c10 2)])] fun v446 =>
         .op (.append 3 40) [(g c0 0), v446] fun v447 =>
         .op (.int .add) [(g c0 1), (I 1)] fun v448 =>
         .ret .normal [v447, v448]) (
         .op (.str .eql) [(g c10 1), (S [120,109,108,58,115,112,97,99,101])] fun v449 =>
         .cnd v449 (
          .op (.slc 0 true true false) [(g c10 1), (I 4)] fun v450 =>
          .cells 1 (I 5) fun c451 =>
          .cells 1 v450 fun c452 =>
          .op (.mksl 3) [(.agg [(g c451 0), (g c452 0), (g c10 2)])] fun v453 =>
          .op (.append 3 40) [(g c0 0), v453] fun v454 =>
          .op (.int .add) [(g c0 1), (I 1)] fun v455 =>
          .ret .normal [v454, v455]) (
          .op (.str .eql) [(g c10 1), (S [120,109,108,110,115])] fun v456 =>
          .cnd v456 (
           .cells 1 (I 6) fun c457 =>
           .op (.mksl 3) [(.agg [(g c457 0), (g c10 1), (g c10 2)])] fun v458 =>
           .op (.append 3 40) [(g c0 0), v458] fun v459 =>
           .op (.int .add) [(g c0 1), (I 1)] fun v460 =>
           .ret .normal [v459, v460]) (
           .op (.str .eql) [(g c10 1), (S [120,109,108,110,115,58,120,108,105,110,107])] fun v461 =>
           .cnd v461 (
            .cells 1 (I 6) fun c462 =>
            .cells 1 (S [120,108,105,110,107]) fun c463 =>
            .op (.mksl 3) [(.agg [(g c462 0), (g c463 0), (g c10 2)])] fun v464 =>
            .op (.append 3 40) [(g c0 0), v464] fun v465 =>
            .op (.int .add) [(g c0 1), (I 1)] fun v466 =>
            .ret .normal [v465, v466]) (
            .op (.mksl 3) [(.agg [(g c10 0), (g c10 1), (g c10 2)])] fun v467 =>
            .op (.append 3 40) [(g c0 0), v467] fun v468 =>
            .op (.int .add) [(g c0 1), (I 1)] fun v469 =>
            .ret .normal [v468, v469])))))) (
       .op (.mksl 3) [(.agg [(g c10 0), (g c10 1), (g c10 2)])] fun v470 =>
       .op (.append 3 40) [(g c0 0), v470] fun v471 =>
       .op (.int .add) [(g c0 1), (I 1)] fun v472 =>
       .ret .normal [v471, v472]))))) (
   .ret (.exit 0) [(g c0 0), (g c0 1)])) (
 fun x c473 => match x with
 | .normal =>
  .ret .ret [(g c473 0)]
 | .exit i =>
  if i = 0 then
   .ret .ret [(g c473 0)]
  else
  .fail
 | .ret =>
  .ret .ret [.slnil])
theorem t87_eq (v900 v901 : AVal) : afun cx 87 [v900, v901] = t87 v900 v901 := by kernel_rfl
def t88 (v900 : AVal) : IT :=
 .loop 2 [ff, (I 0)] (fun c0 =>
  .op (.len false) [v900] fun v1 =>
  .op (.int .lss) [(g c0 1), v1] fun v2 =>
  .cnd v2 (
   .op (.int .leq) [(g c0 1), (I 80)] fun v3 =>
   .cnd v3 (
    .op (.eaddr 8) [v900, (g c0 1)] fun v4 =>
    .op (.faddr 4) [v4] fun v5 =>
    .load none v5 fun v6 =>
    .op (.len true) [v6] fun v7 =>
    .op (.int .gtr) [v7, (I 60)] fun v8 =>
    .cnd v8 (
     .ret .ret [ff, (g c0 1)]) (
     .op (.eaddr 8) [v900, (g c0 1)] fun v9 =>
     .op (.faddr 6) [v9] fun v10 =>
     .load none v10 fun v11 =>
     .call 22 [v11] fun v12 =>
     .op (.un .not) [v12] fun v13 =>
     .cnd v13 (
      .ret .ret [ff, (g c0 1)]) (
      .op (.int .add) [(g c0 1), (I 1)] fun v14 =>
      .ret .normal [(g c0 0), v14]))) (
    .ret (.exit 0) [(g c0 0), (g c0 1)])) (
   .ret (.exit 0) [(g c0 0), (g c0 1)])) (
 fun x c15 => match x with
 | .normal =>
  .op (.len false) [v900] fun v16 =>
  .op (.int .leq) [v16, (I 80)] fun v17 =>
  .ret .ret [v17]
 | .exit i =>
  if i = 0 then
   .op (.len false) [v900] fun v18 =>
   .op (.int .leq) [v18, (I 80)] fun v19 =>
   .ret .ret [v19]
  else
  .fail
 | .ret =>
  .ret .ret [(g c15 0)])
theorem t88_eq (v900 : AVal) : afun cx 88 [v900] = t88 v900 := by kernel_rfl
def t89 (v900 v901 : AVal) : IT :=
 .cells 8 v901 fun c0 =>
 .op (.mkagg [(I 0), (I 0), (S []), ff] []) [] fun v1 =>
 .cells 4 v1 fun c2 =>
 .op (.int .eql) [(g c0 0), (I 1)] fun v3 =>
 .cnd v3 (
  .call 142 [(.agg [(g c0 0), (g c0 1), (g c0 2), (g c0 3), (g c0 4), (g c0 5), (g c0 6), (g c0 7)]), (g c0 1)] fun v4 =>
  .call 92 [v900, v4] fun v5 =>
  .cells 4 (.agg [(g c2 0), (g c2 1), (g c2 2), (g c2 3)]) fun c6 =>
  .ret .ret [(.tuple [(.agg [(g c6 0), (g c6 1), (g c6 2), (g c6 3)]), (I 0)])]) (
  .op (.int .eql) [(g c0 0), (I 2)] fun v7 =>
  .cnd v7 (
   .call 93 [v900] fun v8 =>
   .call 32 [v8] fun v9 =>
   .cells 4 v9 fun c10 =>
   .ret .ret [(.tuple [(.agg [(g c10 0), (g c10 1), (g c10 2), (g c10 3)]), (I 0)])]) (
   .op (.int .eql) [(g c0 0), (I 3)] fun v11 =>
   .cnd v11 (
    .call 31 [v900, (g c0 6)] fun v12 =>
    .cells 4 (.agg [(g c2 0), (g c2 1), (g c2 2), (g c2 3)]) fun c13 =>
    .ret .ret [(.tuple [(.agg [(g c13 0), (g c13 1), (g c13 2), (g c13 3)]), v12])]) (
    .op (.int .eql) [(g c0 0), (I 4)] fun v14 =>
    .cnd v14 (
     .call 143 [v900, (g c0 1)] fun v15 =>
     .cells 4 (.agg [(g c2 0), (g c2 1), (g c2 2), (g c2 3)]) fun c16 =>
     .ret .ret [(.tuple [(.agg [(g c16 0), (g c16 1), (g c16 2), (g c16 3)]), v15])]) (
     .op (.int .eql) [(g c0 0), (I 5)] fun v17 =>
     .cnd v17 (
      .call 30 [v900, (g c0 4)] fun v18 =>
      .cells 4 (.agg [(g c2 0), (g c2 1), (g c2 2), (g c2 3)]) fun c19 =>
      .ret .ret [(.tuple [(.agg [(g c19 0), (g c19 1), (g c19 2), (g c19 3)]), v18])]) (
      .op (.int .eql) [(g c0 0), (I 6)] fun v20 =>
      .cnd v20 (
       .call 144 [v900] fun v21 =>
       .cells 4 (.agg [(g c2 0), (g c2 1), (g c2 2), (g c2 3)]) fun c22 =>
       .ret .ret [(.tuple [(.agg [(g c22 0), (g c22 1), (g c22 2), (g c22 3)]), v21])]) (
       .op (.int .eql) [(g c0 0), (I 7)] fun v23 =>
       .cnd v23 (
        .call 29 [v900, (g c0 6)] fun v24 =>
        .cells 4 (.agg [(g c2 0), (g c2 1), (g c2 2), (g c2 3)]) fun c25 =>
        .ret .ret [(.tuple [(.agg [(g c25 0), (g c25 1), (g c25 2), (g c25 3)]), v24])]) (
        .op (.int .eql) [(g c0 0), (I 8)] fun v26 =>
        .cnd v26 (
         .call 70 [v900, (g c0 1)] fun v27 =>
         .pcall 132 [v27] fun v28 =>
         .cells 4 (.agg [(g c2 0), (g c2 1), (g c2 2), (g c2 3)]) fun c29 =>
         .ret .ret [(.tuple [(.agg [(g c29 0), (g c29 1), (g c29 2), (g c29 3)]), v28])]) (
         .op (.int .eql) [(g c0 0), (I 9)] fun v30 =>
         .cnd v30 (
          .call 142 [(.agg [(g c0 0), (g c0 1), (g c0 2), (g c0 3), (g c0 4), (g c0 5), (g c0 6), (g c0 7)]), (g c0 2)] fun v31 =>
          .call 66 [v900, (g c0 1), v31] fun v32 =>
          .pcall 132 [v32] fun v33 =>
          .cells 4 (.agg [(g c2 0), (g c2 1), (g c2 2), (g c2 3)]) fun c34 =>
          .ret .ret [(.tuple [(.agg [(g c34 0), (g c34 1), (g c34 2), (g c34 3)]), v33])]) (
          .op (.int .eql) [(g c0 0), (I 10)] fun v35 =>
          .cnd v35 (
           .call 142 [(.agg [(g c0 0), (g c0 1), (g c0 2), (g c0 3), (g c0 4), (g c0 5), (g c0 6), (g c0 7)]), (g c0 1)] fun v36 =>
           .call 69 [v900, v36, (g c0 7)] fun v37 =>
           .cells 4 (.agg [(g c2 0), (g c2 1), (g c2 2), (g c2 3)]) fun c38 =>
           .ret .ret [(.tuple [(.agg [(g c38 0), (g c38 1), (g c38 2), (g c38 3)]), (I 0)])]) (
           .cells 4 (.agg [(g c2 0), (g c2 1), (g c2 2), (g c2 3)]) fun c39 =>
           .ret .ret [(.tuple [(.agg [(g c39 0), (g c39 1), (g c39 2), (g c39 3)]), (I 0)])]))))))))))
theorem t89_eq (v900 v901 : AVal) : afun cx 89 [v900, v901] = t89 v900 v901 := by kernel_rfl
def t90 (v900 v901 : AVal) : IT :=
 .cells 8 v901 fun c0 =>
 .op (.mkagg [(I 0), (I 0), (S []), ff] []) [] fun v1 =>
 .cells 4 v1 fun c2 =>
 .op (.mkagg [(I 0), (I 0), (S []), ff] [(0, 1), (1, 1), (2, 1), (3, 1)]) [(g c0 1), (g c0 3), (g c0 4), (g c0 5)] fun v3 =>
 .cells 4 v3 fun c4 =>
 .op (.int .eql) [(g c0 0), (I 1)] fun v5 =>
 .cnd v5 (
  .op (.append 4 40) [.slnil, v900] fun v6 =>
  .op (.mksl 4) [(.agg [(g c4 0), (g c4 1), (g c4 2), (g c4 3)])] fun v7 =>
  .op (.append 4 40) [v6, v7] fun v8 =>
  .cells 4 (.agg [(g c2 0), (g c2 1), (g c2 2), (g c2 3)]) fun c9 =>
  .ret .ret [(.tuple [v8, (.agg [(g c9 0), (g c9 1), (g c9 2), (g c9 3)]), (I 0)])]) (
  .op (.int .eql) [(g c0 0), (I 2)] fun v10 =>
  .cnd v10 (
   .call 145 [v900] fun v11 =>
   .op (.len false) [v11] fun v12 =>
   .op (.len false) [v900] fun v13 =>
   .op (.int .eql) [v12, v13] fun v14 =>
   .cnd v14 (
    .cells 4 (.agg [(g c2 0), (g c2 1), (g c2 2), (g c2 3)]) fun c15 =>
    .ret .ret [(.tuple [v11, (.agg [(g c15 0), (g c15 1), (g c15 2), (g c15 3)]), (I 0)])]) (
    .call 91 [v900] fun v16 =>
    .cells 4 v16 fun c17 =>
    .ret .ret [(.tuple [v11, (.agg [(g c17 0), (g c17 1), (g c17 2), (g c17 3)]), (I 0)])])) (
   .op (.int .eql) [(g c0 0), (I 3)] fun v18 =>
   .cnd v18 (
    .call 146 [v900, (g c0 6)] fun v19 =>
    .op (.len false) [v900] fun v20 =>
    .op (.len false) [v19] fun v21 =>
    .op (.int .sub) [v20, v21] fun v22 =>
    .cells 4 (.agg [(g c2 0), (g c2 1), (g c2 2), (g c2 3)]) fun c23 =>
    .ret .ret [(.tuple [v19, (.agg [(g c23 0), (g c23 1), (g c23 2), (g c23 3)]), v22])]) (
    .op (.int .eql) [(g c0 0), (I 4)] fun v24 =>
    .cnd v24 (
     .call 147 [v900, (g c0 1)] fun v25 =>
     .op (.len false) [v900] fun v26 =>
     .op (.len false) [v25] fun v27 =>
     .op (.int .sub) [v26, v27] fun v28 =>
     .cells 4 (.agg [(g c2 0), (g c2 1), (g c2 2), (g c2 3)]) fun c29 =>
     .ret .ret [(.tuple [v25, (.agg [(g c29 0), (g c29 1), (g c29 2), (g c29 3)]), v28])]) (
     .op (.int .eql) [(g c0 0), (I 5)] fun v30 =>
     .cnd v30 (
      .call 148 [v900, (g c0 4), ff] fun v31 =>
      .op (.len false) [v900] fun v32 =>
      .op (.len false) [v31] fun v33 =>
      .op (.int .sub) [v32, v33] fun v34 =>
      .cells 4 (.agg [(g c2 0), (g c2 1), (g c2 2), (g c2 3)]) fun c35 =>
      .ret .ret [(.tuple [v31, (.agg [(g c35 0), (g c35 1), (g c35 2), (g c35 3)]), v34])]) (
      .op (.int .eql) [(g c0 0), (I 6)] fun v36 =>
      .cnd v36 (
       .call 148 [v900, (S []), tt] fun v37 =>
       .op (.len false) [v900] fun v38 =>
       .op (.len false) [v37] fun v39 =>
       .op (.int .sub) [v38, v39] fun v40 =>
       .cells 4 (.agg [(g c2 0), (g c2 1), (g c2 2), (g c2 3)]) fun c41 =>
       .ret .ret [(.tuple [v37, (.agg [(g c41 0), (g c41 1), (g c41 2), (g c41 3)]), v40])]) (
       .op (.int .eql) [(g c0 0), (I 7)] fun v42 =>
       .cnd v42 (
        .call 149 [v900, (g c0 6)] fun v43 =>
        .op (.len false) [v900] fun v44 =>
        .op (.len false) [v43] fun v45 =>
        .op (.int .sub) [v44, v45] fun v46 =>
        .cells 4 (.agg [(g c2 0), (g c2 1), (g c2 2), (g c2 3)]) fun c47 =>
        .ret .ret [(.tuple [v43, (.agg [(g c47 0), (g c47 1), (g c47 2), (g c47 3)]), v46])]) (
        .op (.int .eql) [(g c0 0), (I 8)] fun v48 =>
        .cnd v48 (
         .call 150 [v900, (g c0 1)] fun v49 =>
         .op (.ext 0) [v49] fun v50 =>
         .op (.ext 1) [v49] fun v51 =>
         .pcall 132 [v51] fun v52 =>
         .cells 4 (.agg [(g c2 0), (g c2 1), (g c2 2), (g c2 3)]) fun c53 =>
         .ret .ret [(.tuple [v50, (.agg [(g c53 0), (g c53 1), (g c53 2), (g c53 3)]), v52])]) (
         .op (.int .eql) [(g c0 0), (I 9)] fun v54 =>
         .cnd v54 (
          .cells 1 (g c0 2) fun c55 =>
          .call 151 [v900, (g c0 1), (.agg [(g c55 0), (g c4 1), (g c4 2), (g c4 3)])] fun v56 =>
          .op (.ext 0) [v56] fun v57 =>
          .op (.ext 1) [v56] fun v58 =>
          .pcall 132 [v58] fun v59 =>
          .cells 4 (.agg [(g c2 0), (g c2 1), (g c2 2), (g c2 3)]) fun c60 =>
          .ret .ret [(.tuple [v57, (.agg [(g c60 0), (g c60 1), (g c60 2), (g c60 3)]), v59])]) (
          .op (.int .eql) [(g c0 0), (I 10)] fun v61 =>
          .cnd v61 (
           .call 152 [v900, (.agg [(g c4 0), (g c4 1), (g c4 2), (g c4 3)]), (g c0 7)] fun v62 =>
           .cells 4 (.agg [(g c2 0), (g c2 1), (g c2 2), (g c2 3)]) fun c63 =>
           .ret .ret [(.tuple [v62, (.agg [(g c63 0), (g c63 1), (g c63 2), (g c63 3)]), (I 0)])]) (
           .op (.len false) [v900] fun v64 =>
           .op (.len false) [v900] fun v65 =>
           .op (.int .sub) [v64, v65] fun v66 =>
           .cells 4 (.agg [(g c2 0), (g c2 1), (g c2 2), (g c2 3)]) fun c67 =>
           .ret .ret [(.tuple [v900, (.agg [(g c67 0), (g c67 1), (g c67 2), (g c67 3)]), v66])]))))))))))
theorem t90_eq (v900 v901 : AVal) : afun cx 90 [v900, v901] = t90 v900 v901 := by kernel_rfl
def t91 (v900 : AVal) : IT :=
 .op (.len false) [v900] fun v0 =>
 .op (.int .sub) [v0, (I 1)] fun v1 =>
 .call 37 [v900, v1] fun v2 =>
 .cells 4 v2 fun c3 =>
 .ret .ret [(.agg [(g c3 0), (g c3 1), (g c3 2), (g c3 3)])]
theorem t91_eq (v900 : AVal) : afun cx 91 [v900] = t91 v900 := by kernel_rfl
def t92 (v900 v901 : AVal) : IT :=
 .cells 4 v901 fun c0 =>
 .op (.peq true) [v900, (.ptr none)] fun v1 =>
 .cnd v1 (
  .op .nonnil [v900] fun v2 =>
  .op (.faddr 0) [v2] fun v3 =>
  .load none v3 fun v4 =>
  .op .nonnil [v900] fun v5 =>
  .op (.faddr 0) [v5] fun v6 =>
  .load none v6 fun v7 =>
  .op (.len false) [v7] fun v8 =>
  .call 119 [v4, (.agg [(g c0 0), (g c0 1), (g c0 2), (g c0 3)]), v8] fun v9 =>
  .op .nonnil [v900] fun v10 =>
  .op (.faddr 0) [v10] fun v11 =>
  .store 1 v11 v9 (
  .ret .ret [(.tuple [])])) (
  .ret .ret [(.tuple [])])
theorem t92_eq (v900 v901 : AVal) : afun cx 92 [v900, v901] = t92 v900 v901 := by kernel_rfl
def t93 (v900 : AVal) : IT :=
 .call 34 [v900] fun v0 =>
 .op (.int .lss) [v0, (I 2)] fun v1 =>
 .cnd v1 (
  .op (.mkagg [(I 0), (I 0), (S []), ff] []) [] fun v2 =>
  .cells 4 v2 fun c3 =>
  .ret .ret [(.agg [(g c3 0), (g c3 1), (g c3 2), (g c3 3)])]) (
  .call 33 [v900] fun v4 =>
  .cells 4 v4 fun c5 =>
  .op .nonnil [v900] fun v6 =>
  .op (.faddr 0) [v6] fun v7 =>
  .load none v7 fun v8 =>
  .op .nonnil [v900] fun v9 =>
  .op (.faddr 0) [v9] fun v10 =>
  .load none v10 fun v11 =>
  .op (.len false) [v11] fun v12 =>
  .op (.int .sub) [v12, (I 1)] fun v13 =>
  .op (.slc 4 false false true) [v8, v13] fun v14 =>
  .op .nonnil [v900] fun v15 =>
  .op (.faddr 0) [v15] fun v16 =>
  .store 1 v16 v14 (
  .cells 4 (.agg [(g c5 0), (g c5 1), (g c5 2), (g c5 3)]) fun c17 =>
  .ret .ret [(.agg [(g c17 0), (g c17 1), (g c17 2), (g c17 3)])]))
theorem t93_eq (v900 : AVal) : afun cx 93 [v900] = t93 v900 := by kernel_rfl
def t94 (v900 : AVal) : IT :=
 .op (.peq true) [v900, (.ptr none)] fun v0 =>
 .cnd v0 (
  .op .nonnil [v900] fun v1 =>
  .op (.faddr 0) [v1] fun v2 =>
  .load none v2 fun v3 =>
  .op (.mkagg [(I 0), (S []), .slnil] []) [] fun v4 =>
  .op .nonnil [v900] fun v5 =>
  .op (.faddr 0) [v5] fun v6 =>
  .load none v6 fun v7 =>
  .op (.len false) [v7] fun v8 =>
  .call 124 [v3, v4, v8] fun v9 =>
  .op .nonnil [v900] fun v10 =>
  .op (.faddr 0) [v10] fun v11 =>
  .store 1 v11 v9 (
  .ret .ret [(.tuple [])])) (
  .ret .ret [(.tuple [])])
theorem t94_eq (v900 : AVal) : afun cx 94 [v900] = t94 v900 := by kernel_rfl
def t95 (v900 : AVal) : IT :=
 .op (.peq false) [v900, (.ptr none)] fun v0 =>
 .cnd v0 (
  .ret .ret [(I 0)]) (
  .op .nonnil [v900] fun v1 =>
  .op (.faddr 0) [v1] fun v2 =>
  .load none v2 fun v3 =>
  .op (.len false) [v3] fun v4 =>
  .op .nonnil [v900] fun v5 =>
  .op (.faddr 0) [v5] fun v6 =>
  .load none v6 fun v7 =>
  .call 121 [v900] fun v8 =>
  .load none v6 fun v9 =>
  .same v7 v9 (
  .op (.int .sub) [v8, (I 1)] fun v10 =>
  .op (.minmax true) [v10, (I 0)] fun v11 =>
  .op (.slc 3 false false true) [v7, v11] fun v12 =>
  .op .nonnil [v900] fun v13 =>
  .op (.faddr 0) [v13] fun v14 =>
  .store 1 v14 v12 (
  .op .nonnil [v900] fun v15 =>
  .op (.faddr 0) [v15] fun v16 =>
  .load none v16 fun v17 =>
  .op (.len false) [v17] fun v18 =>
  .op (.int .sub) [v4, v18] fun v19 =>
  .ret .ret [v19])))
theorem t95_eq (v900 : AVal) : afun cx 95 [v900] = t95 v900 := by kernel_rfl
def t96 (v900 v901 v902 : AVal) : IT :=
 .cells 1 v902 fun c0 =>
 .call 153 [v901] fun v1 =>
 .cells 1 v1 fun c2 =>
 .call 106 [v900, (.func (.func 154) [] [(.rptr [(g c0 0)]), (.rptr [(g c2 0)])])] fun v3 =>
 .op (.int .geq) [v3, (I 0)] fun v4 =>
 .cnd v4 (
  .load none (.rptr [(g c0 0)]) fun v5 =>
  .op .nonnil [v900] fun v6 =>
  .op (.faddr 0) [v6] fun v7 =>
  .load none v7 fun v8 =>
  .op (.eaddr 4) [v8, v3] fun v9 =>
  .load (some 4) v9 fun v10 =>
  .callv v5 [v10] fun v11 =>
  .ret .ret [v11]) (
  .ret .ret [ff])
theorem t96_eq (v900 v901 v902 : AVal) : afun cx 96 [v900, v901, v902] = t96 v900 v901 v902 := by kernel_rfl
end Go.Am
