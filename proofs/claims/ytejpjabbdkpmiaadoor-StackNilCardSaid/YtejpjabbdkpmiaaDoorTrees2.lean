/-
  The trees of the functions, written by a program; each is held against the code by the kernel. No law is claimed here.
-/
import Derived.Test.YtejpjabbdkpmiaaDoorCtx
import Derived.KernelRfl
namespace Go.Am
open Go
set_option linter.unusedVariables false
def t24 (v900 : AVal) : IT :=
 .op (.mkagg [.slnil] []) [] fun v0 =>
 .alloc 1 v0 fun v1 =>
 .loop 3 [(I 0)] (fun c2 =>
  .op (.len false) [v900] fun v3 =>
  .op (.int .lss) [(g c2 0), v3] fun v4 =>
  .cnd v4 (
   .op (.eaddr 4) [v900, (g c2 0)] fun v5 =>
   .op (.faddr 0) [v5] fun v6 =>
   .load none v6 fun v7 =>
   .op (.eaddr 4) [v900, (g c2 0)] fun v8 =>
   .op (.faddr 1) [v8] fun v9 =>
   .load none v9 fun v10 =>
   .op (.eaddr 4) [v900, (g c2 0)] fun v11 =>
   .op (.faddr 2) [v11] fun v12 =>
   .load none v12 fun v13 =>
   .op (.eaddr 4) [v900, (g c2 0)] fun v14 =>
   .op (.faddr 3) [v14] fun v15 =>
   .load none v15 fun v16 =>
   .op (.mkagg [(I 0), (I 0), (S []), ff] [(0, 1), (1, 1), (2, 1), (3, 1)]) [v7, v10, v13, v16] fun v17 =>
   .call 92 [v1, v17] fun v18 =>
   .op (.int .add) [(g c2 0), (I 1)] fun v19 =>
   .ret .normal [v19]) (
   .ret (.exit 0) [(g c2 0)])) (
 fun x c20 => match x with
 | .normal =>
  .ret .ret [v1]
 | .exit i =>
  if i = 0 then
   .ret .ret [v1]
  else
  .fail
 | .ret =>
  .ret .ret [(.ptr none)])
theorem t24_eq (v900 : AVal) : afun cx 24 [v900] = t24 v900 := by kernel_rfl
def t25 (v900 v901 v902 : AVal) : IT :=
 .cells 1 v902 fun c0 =>
 .call 96 [v900, v901, (.func (.func 97) [] [(.rptr [(g c0 0)])])] fun v1 =>
 .ret .ret [v1]
theorem t25_eq (v900 v901 v902 : AVal) : afun cx 25 [v900, v901, v902] = t25 v900 v901 v902 := by kernel_rfl
def t26 (v900 v901 v902 : AVal) : IT :=
 .loop 2 [ff, (I 0)] (fun c0 =>
  .op (.len false) [v900] fun v1 =>
  .op (.int .lss) [(g c0 1), v1] fun v2 =>
  .cnd v2 (
   .op (.eaddr 4) [v900, (g c0 1)] fun v3 =>
   .load (some 4) v3 fun v4 =>
   .call 35 [v4, v902] fun v5 =>
   .cnd v5 (
    .call 99 [v900, (g c0 1), v901] fun v6 =>
    .cnd v6 (
     .ret .ret [tt, (g c0 1)]) (
     .op (.int .add) [(g c0 1), (I 1)] fun v7 =>
     .ret .normal [(g c0 0), v7])) (
    .op (.int .add) [(g c0 1), (I 1)] fun v8 =>
    .ret .normal [(g c0 0), v8])) (
   .ret (.exit 0) [(g c0 0), (g c0 1)])) (
 fun x c9 => match x with
 | .normal =>
  .ret .ret [ff]
 | .exit i =>
  if i = 0 then
   .ret .ret [ff]
  else
  .fail
 | .ret =>
  .ret .ret [(g c9 0)])
theorem t26_eq (v900 v901 v902 : AVal) : afun cx 26 [v900, v901, v902] = t26 v900 v901 v902 := by kernel_rfl
def t27 (v900 v901 v902 : AVal) : IT :=
 .cells 1 v902 fun c0 =>
 .call 96 [v900, v901, (.func (.func 100) [] [(.rptr [(g c0 0)])])] fun v1 =>
 .ret .ret [v1]
theorem t27_eq (v900 v901 v902 : AVal) : afun cx 27 [v900, v901, v902] = t27 v900 v901 v902 := by kernel_rfl
def t28 (v900 v901 v902 : AVal) : IT :=
 .call 49 [v900, v902] fun v0 =>
 .op (.int .geq) [v0, (I 0)] fun v1 =>
 .cnd v1 (
  .call 99 [v900, v0, v901] fun v2 =>
  .ret .ret [v2]) (
  .ret .ret [ff])
theorem t28_eq (v900 v901 v902 : AVal) : afun cx 28 [v900, v901, v902] = t28 v900 v901 v902 := by kernel_rfl
def t29 (v900 v901 : AVal) : IT :=
 .cells 1 v901 fun c0 =>
 .call 101 [v900, (.func (.func 102) [] [(.rptr [(g c0 0)])]), (.func (.func 103) [] [])] fun v1 =>
 .ret .ret [v1]
theorem t29_eq (v900 v901 : AVal) : afun cx 29 [v900, v901] = t29 v900 v901 := by kernel_rfl
def t30 (v900 v901 : AVal) : IT :=
 .cells 1 v901 fun c0 =>
 .call 101 [v900, (.func (.func 104) [] [(.rptr [(g c0 0)])]), (.func (.func 103) [] [])] fun v1 =>
 .ret .ret [v1]
theorem t30_eq (v900 v901 : AVal) : afun cx 30 [v900, v901] = t30 v900 v901 := by kernel_rfl
def t31 (v900 v901 : AVal) : IT :=
 .cells 1 v901 fun c0 =>
 .call 101 [v900, (.func (.func 103) [] []), (.func (.func 105) [] [(.rptr [(g c0 0)])])] fun v1 =>
 .ret .ret [v1]
theorem t31_eq (v900 v901 : AVal) : afun cx 31 [v900, v901] = t31 v900 v901 := by kernel_rfl
def t32 (v900 : AVal) : IT :=
 .cells 4 v900 fun c0 =>
 .op (.mkagg [(I 0), (I 0), (S []), ff] [(0, 1), (1, 1), (2, 1), (3, 1)]) [(g c0 0), (g c0 1), (g c0 2), (g c0 3)] fun v1 =>
 .cells 4 v1 fun c2 =>
 .ret .ret [(.agg [(g c2 0), (g c2 1), (g c2 2), (g c2 3)])]
theorem t32_eq (v900 : AVal) : afun cx 32 [v900] = t32 v900 := by kernel_rfl
def t33 (v900 : AVal) : IT :=
 .call 34 [v900] fun v0 =>
 .op (.int .sub) [v0, (I 1)] fun v1 =>
 .call 48 [v900, v1] fun v2 =>
 .cells 4 v2 fun c3 =>
 .ret .ret [(.agg [(g c3 0), (g c3 1), (g c3 2), (g c3 3)])]
theorem t33_eq (v900 : AVal) : afun cx 33 [v900] = t33 v900 := by kernel_rfl
def t34 (v900 : AVal) : IT :=
 .op (.peq false) [v900, (.ptr none)] fun v0 =>
 .cnd v0 (
  .ret .ret [(I 0)]) (
  .op .nonnil [v900] fun v1 =>
  .op (.faddr 0) [v1] fun v2 =>
  .load none v2 fun v3 =>
  .op (.len false) [v3] fun v4 =>
  .ret .ret [v4])
theorem t34_eq (v900 : AVal) : afun cx 34 [v900] = t34 v900 := by kernel_rfl
def t35 (v900 v901 : AVal) : IT :=
 .cells 4 v900 fun c0 =>
 .op (.int .neq) [(g c0 1), (I 1)] fun v1 =>
 .cnd v1 (
  .ret .ret [ff]) (
  .loop 4 [ff, (I 0)] (fun c2 =>
   .op (.len false) [v901] fun v3 =>
   .op (.int .lss) [(g c2 1), v3] fun v4 =>
   .cnd v4 (
    .op (.eaddr 1) [v901, (g c2 1)] fun v5 =>
    .load none v5 fun v6 =>
    .op (.str .eql) [v6, (g c0 2)] fun v7 =>
    .cnd v7 (
     .ret .ret [tt, (g c2 1)]) (
     .op (.int .add) [(g c2 1), (I 1)] fun v8 =>
     .ret .normal [(g c2 0), v8])) (
    .ret (.exit 0) [(g c2 0), (g c2 1)])) (
  fun x c9 => match x with
  | .normal =>
   .ret .ret [ff]
  | .exit i =>
   if i = 0 then
    .ret .ret [ff]
   else
   .fail
  | .ret =>
   .ret .ret [(g c9 0)]))
theorem t35_eq (v900 v901 : AVal) : afun cx 35 [v900, v901] = t35 v900 v901 := by kernel_rfl
def t36 (v900 : AVal) : IT :=
 .op (.str .eql) [v900, (S [100,100])] fun v0 =>
 .cnd v0 (
  .ret .ret [tt]) (
  .op (.str .eql) [v900, (S [100,116])] fun v1 =>
  .cnd v1 (
   .ret .ret [tt]) (
   .op (.str .eql) [v900, (S [108,105])] fun v2 =>
   .cnd v2 (
    .ret .ret [tt]) (
    .op (.str .eql) [v900, (S [111,112,116,103,114,111,117,112])] fun v3 =>
    .cnd v3 (
     .ret .ret [tt]) (
     .op (.str .eql) [v900, (S [111,112,116,105,111,110])] fun v4 =>
     .cnd v4 (
      .ret .ret [tt]) (
      .op (.str .eql) [v900, (S [112])] fun v5 =>
      .cnd v5 (
       .ret .ret [tt]) (
       .op (.str .eql) [v900, (S [114,98])] fun v6 =>
       .cnd v6 (
        .ret .ret [tt]) (
        .op (.str .eql) [v900, (S [114,112])] fun v7 =>
        .cnd v7 (
         .ret .ret [tt]) (
         .op (.str .eql) [v900, (S [114,116])] fun v8 =>
         .cnd v8 (
          .ret .ret [tt]) (
          .op (.str .eql) [v900, (S [114,116,99])] fun v9 =>
          .cnd v9 (
           .ret .ret [tt]) (
           .ret .ret [ff]))))))))))
theorem t36_eq (v900 : AVal) : afun cx 36 [v900] = t36 v900 := by kernel_rfl
def t37 (v900 v901 : AVal) : IT :=
 .op (.int .lss) [v901, (I 0)] fun v0 =>
 .cnd v0 (
  .op (.mkagg [(I 0), (I 0), (S []), ff] []) [] fun v1 =>
  .cells 4 v1 fun c2 =>
  .ret .ret [(.agg [(g c2 0), (g c2 1), (g c2 2), (g c2 3)])]) (
  .op (.len false) [v900] fun v3 =>
  .op (.int .geq) [v901, v3] fun v4 =>
  .cnd v4 (
   .op (.mkagg [(I 0), (I 0), (S []), ff] []) [] fun v5 =>
   .cells 4 v5 fun c6 =>
   .ret .ret [(.agg [(g c6 0), (g c6 1), (g c6 2), (g c6 3)])]) (
   .op (.eaddr 4) [v900, v901] fun v7 =>
   .load (some 4) v7 fun v8 =>
   .cells 4 v8 fun c9 =>
   .ret .ret [(.agg [(g c9 0), (g c9 1), (g c9 2), (g c9 3)])]))
theorem t37_eq (v900 v901 : AVal) : afun cx 37 [v900, v901] = t37 v900 v901 := by kernel_rfl
def t38 (v900 : AVal) : IT :=
 .alloc 6 v900 fun v0 =>
 .op (.aaddr 6 1) [v0, (I 2)] fun v1 =>
 .load none v1 fun v2 =>
 .op (.un .not) [v2] fun v3 =>
 .cnd v3 (
  .op (.aaddr 6 1) [v0, (I 3)] fun v4 =>
  .load none v4 fun v5 =>
  .op (.un .not) [v5] fun v6 =>
  .cnd v6 (
   .op (.aaddr 6 1) [v0, (I 1)] fun v7 =>
   .load none v7 fun v8 =>
   .op (.un .not) [v8] fun v9 =>
   .cnd v9 (
    .op (.aaddr 6 1) [v0, (I 5)] fun v10 =>
    .load none v10 fun v11 =>
    .op (.un .not) [v11] fun v12 =>
    .cnd v12 (
     .ret .ret [tt]) (
     .op (.aaddr 6 1) [v0, (I 4)] fun v13 =>
     .load none v13 fun v14 =>
     .ret .ret [v14])) (
    .op (.aaddr 6 1) [v0, (I 4)] fun v15 =>
    .load none v15 fun v16 =>
    .ret .ret [v16])) (
   .op (.aaddr 6 1) [v0, (I 1)] fun v17 =>
   .load none v17 fun v18 =>
   .cnd v18 (
    .op (.aaddr 6 1) [v0, (I 1)] fun v19 =>
    .load none v19 fun v20 =>
    .op (.un .not) [v20] fun v21 =>
    .cnd v21 (
     .op (.aaddr 6 1) [v0, (I 5)] fun v22 =>
     .load none v22 fun v23 =>
     .op (.un .not) [v23] fun v24 =>
     .cnd v24 (
      .ret .ret [tt]) (
      .op (.aaddr 6 1) [v0, (I 4)] fun v25 =>
      .load none v25 fun v26 =>
      .ret .ret [v26])) (
     .op (.aaddr 6 1) [v0, (I 4)] fun v27 =>
     .load none v27 fun v28 =>
     .ret .ret [v28])) (
    .ret .ret [ff]))) (
  .op (.aaddr 6 1) [v0, (I 1)] fun v29 =>
  .load none v29 fun v30 =>
  .cnd v30 (
   .op (.aaddr 6 1) [v0, (I 1)] fun v31 =>
   .load none v31 fun v32 =>
   .op (.un .not) [v32] fun v33 =>
   .cnd v33 (
    .op (.aaddr 6 1) [v0, (I 5)] fun v34 =>
    .load none v34 fun v35 =>
    .op (.un .not) [v35] fun v36 =>
    .cnd v36 (
     .ret .ret [tt]) (
     .op (.aaddr 6 1) [v0, (I 4)] fun v37 =>
     .load none v37 fun v38 =>
     .ret .ret [v38])) (
    .op (.aaddr 6 1) [v0, (I 4)] fun v39 =>
    .load none v39 fun v40 =>
    .ret .ret [v40])) (
   .ret .ret [ff]))
theorem t38_eq (v900 : AVal) : afun cx 38 [v900] = t38 v900 := by kernel_rfl
def t39 (v900 v901 : AVal) : IT :=
 .cells 1 v901 fun c0 =>
 .call 106 [v900, (.func (.func 107) [] [(.rptr [(g c0 0)])])] fun v1 =>
 .ret .ret [v1]
theorem t39_eq (v900 v901 : AVal) : afun cx 39 [v900, v901] = t39 v900 v901 := by kernel_rfl
def t40 (v900 v901 : AVal) : IT :=
 .cells 1 v901 fun c0 =>
 .call 106 [v900, (.func (.func 108) [] [(.rptr [(g c0 0)])])] fun v1 =>
 .ret .ret [v1]
theorem t40_eq (v900 v901 : AVal) : afun cx 40 [v900, v901] = t40 v900 v901 := by kernel_rfl
def t41 (v900 : AVal) : IT :=
 .loop 2 [ff, (I 0)] (fun c0 =>
  .op (.len false) [v900] fun v1 =>
  .op (.int .lss) [(g c0 1), v1] fun v2 =>
  .cnd v2 (
   .op (.int .leq) [(g c0 1), (I 12)] fun v3 =>
   .cnd v3 (
    .op (.eaddr 3) [v900, (g c0 1)] fun v4 =>
    .op (.faddr 1) [v4] fun v5 =>
    .load none v5 fun v6 =>
    .op (.len true) [v6] fun v7 =>
    .op (.int .gtr) [v7, (I 60)] fun v8 =>
    .cnd v8 (
     .ret .ret [ff, (g c0 1)]) (
     .op (.eaddr 3) [v900, (g c0 1)] fun v9 =>
     .op (.faddr 2) [v9] fun v10 =>
     .load none v10 fun v11 =>
     .op (.len true) [v11] fun v12 =>
     .op (.int .gtr) [v12, (I 200)] fun v13 =>
     .cnd v13 (
      .ret .ret [ff, (g c0 1)]) (
      .op (.int .add) [(g c0 1), (I 1)] fun v14 =>
      .ret .normal [(g c0 0), v14]))) (
    .ret (.exit 0) [(g c0 0), (g c0 1)])) (
   .ret (.exit 0) [(g c0 0), (g c0 1)])) (
 fun x c15 => match x with
 | .normal =>
  .op (.len false) [v900] fun v16 =>
  .op (.int .leq) [v16, (I 12)] fun v17 =>
  .ret .ret [v17]
 | .exit i =>
  if i = 0 then
   .op (.len false) [v900] fun v18 =>
   .op (.int .leq) [v18, (I 12)] fun v19 =>
   .ret .ret [v19]
  else
  .fail
 | .ret =>
  .ret .ret [(g c15 0)])
theorem t41_eq (v900 : AVal) : afun cx 41 [v900] = t41 v900 := by kernel_rfl
def t42 (v900 v901 : AVal) : IT :=
 .op (.int .eql) [v900, (I 3)] fun v0 =>
 .cnd v0 (
  .op (.str .eql) [v901, (S [97,110,110,111,116,97,116,105,111,110,45,120,109,108])] fun v1 =>
  .cnd v1 (
   .ret .ret [tt]) (
   .pcall 44 [v900, v901] fun v2 =>
   .ret .ret [v2])) (
  .op (.int .eql) [v900, (I 2)] fun v3 =>
  .cnd v3 (
   .op (.str .eql) [v901, (S [100,101,115,99])] fun v4 =>
   .cnd v4 (
    .ret .ret [tt]) (
    .op (.str .eql) [v901, (S [102,111,114,101,105,103,110,79,98,106,101,99,116])] fun v5 =>
    .cnd v5 (
     .ret .ret [tt]) (
     .op (.str .eql) [v901, (S [116,105,116,108,101])] fun v6 =>
     .ret .ret [v6]))) (
   .op (.int .eql) [v900, (I 1)] fun v7 =>
   .cnd v7 (
    .op (.str .eql) [v901, (S [97,100,100,114,101,115,115])] fun v8 =>
    .cnd v8 (
     .ret .ret [tt]) (
     .op (.str .eql) [v901, (S [97,112,112,108,101,116])] fun v9 =>
     .cnd v9 (
      .ret .ret [tt]) (
      .op (.str .eql) [v901, (S [97,114,101,97])] fun v10 =>
      .cnd v10 (
       .ret .ret [tt]) (
       .op (.str .eql) [v901, (S [97,114,116,105,99,108,101])] fun v11 =>
       .cnd v11 (
        .ret .ret [tt]) (
        .op (.str .eql) [v901, (S [97,115,105,100,101])] fun v12 =>
        .cnd v12 (
         .ret .ret [tt]) (
         .op (.str .eql) [v901, (S [98,97,115,101])] fun v13 =>
         .cnd v13 (
          .ret .ret [tt]) (
          .op (.str .eql) [v901, (S [98,97,115,101,102,111,110,116])] fun v14 =>
          .cnd v14 (
           .ret .ret [tt]) (
           .op (.str .eql) [v901, (S [98,103,115,111,117,110,100])] fun v15 =>
           .cnd v15 (
            .ret .ret [tt]) (
            .op (.str .eql) [v901, (S [98,108,111,99,107,113,117,111,116,101])] fun v16 =>
            .cnd v16 (
             .ret .ret [tt]) (
             .op (.str .eql) [v901, (S [98,111,100,121])] fun v17 =>
             .cnd v17 (
              .ret .ret [tt]) (
              .op (.str .eql) [v901, (S [98,114])] fun v18 =>
              .cnd v18 (
               .ret .ret [tt]) (
               .op (.str .eql) [v901, (S [98,117,116,116,111,110])] fun v19 =>
               .cnd v19 (
                .ret .ret [tt]) (
                .op (.str .eql) [v901, (S [99,97,112,116,105,111,110])] fun v20 =>
                .cnd v20 (
                 .ret .ret [tt]) (
                 .op (.str .eql) [v901, (S [99,101,110,116,101,114])] fun v21 =>
                 .cnd v21 (
                  .ret .ret [tt]) (
                  .op (.str .eql) [v901, (S [99,111,108])] fun v22 =>
                  .cnd v22 (
                   .ret .ret [tt]) (
                   .op (.str .eql) [v901, (S [99,111,108,103,114,111,117,112])] fun v23 =>
                   .cnd v23 (
                    .ret .ret [tt]) (
                    .op (.str .eql) [v901, (S [100,100])] fun v24 =>
                    .cnd v24 (
                     .ret .ret [tt]) (
                     .op (.str .eql) [v901, (S [100,101,116,97,105,108,115])] fun v25 =>
                     .cnd v25 (
                      .ret .ret [tt]) (
                      .op (.str .eql) [v901, (S [100,105,114])] fun v26 =>
                      .cnd v26 (
                       .ret .ret [tt]) (
                       .op (.str .eql) [v901, (S [100,105,118])] fun v27 =>
                       .cnd v27 (
                        .ret .ret [tt]) (
                        .op (.str .eql) [v901, (S [100,108])] fun v28 =>
                        .cnd v28 (
                         .ret .ret [tt]) (
                         .op (.str .eql) [v901, (S [100,116])] fun v29 =>
                         .cnd v29 (
                          .ret .ret [tt]) (
                          .op (.str .eql) [v901, (S [101,109,98,101,100])] fun v30 =>
                          .cnd v30 (
                           .ret .ret [tt]) (
                           .op (.str .eql) [v901, (S [102,105,101,108,100,115,101,116])] fun v31 =>
                           .cnd v31 (
                            .ret .ret [tt]) (
                            .op (.str .eql) [v901, (S [102,105,103,99,97,112,116,105,111,110])] fun v32 =>
                            .cnd v32 (
                             .ret .ret [tt]) (
                             .op (.str .eql) [v901, (S [102,105,103,117,114,101])] fun v33 =>
                             .cnd v33 (
                              .ret .ret [tt]) (
                              .op (.str .eql) [v901, (S [102,111,111,116,101,114])] fun v34 =>
                              .cnd v34 (
                               .ret .ret [tt]) (
                               .op (.str .eql) [v901, (S [102,111,114,109])] fun v35 =>
                               .cnd v35 (
                                .ret .ret [tt]) (
                                .op (.str .eql) [v901, (S [102,114,97,109,101])] fun v36 =>
                                .cnd v36 (
                                 .ret .ret [tt]) (
                                 .op (.str .eql) [v901, (S [102,114,97,109,101,115,101,116])] fun v37 =>
                                 .cnd v37 (
                                  .ret .ret [tt]) (
                                  .op (.str .eql) [v901, (S [104,49])] fun v38 =>
                                  .cnd v38 (
                                   .ret .ret [tt]) (
                                   .op (.str .eql) [v901, (S [104,50])] fun v39 =>
                                   .cnd v39 (
                                    .ret .ret [tt]) (
                                    .op (.str .eql) [v901, (S [104,51])] fun v40 =>
                                    .cnd v40 (
                                     .ret .ret [tt]) (
                                     .op (.str .eql) [v901, (S [104,52])] fun v41 =>
                                     .cnd v41 (
                                      .ret .ret [tt]) (
                                      .op (.str .eql) [v901, (S [104,53])] fun v42 =>
                                      .cnd v42 (
                                       .ret .ret [tt]) (
                                       .op (.str .eql) [v901, (S [104,54])] fun v43 =>
                                       .cnd v43 (
                                        .ret .ret [tt]) (
                                        .op (.str .eql) [v901, (S [104,101,97,100])] fun v44 =>
                                        .cnd v44 (
                                         .ret .ret [tt]) (
                                         .op (.str .eql) [v901, (S [104,101,97,100,101,114])] fun v45 =>
                                         .cnd v45 (
                                          .ret .ret [tt]) (
                                          .op (.str .eql) [v901, (S [104,103,114,111,117,112])] fun v46 =>
                                          .cnd v46 (
                                           .ret .ret [tt]) (
                                           .op (.str .eql) [v901, (S [104,114])] fun v47 =>
                                           .cnd v47 (
                                            .ret .ret [tt]) (
                                            .op (.str .eql) [v901, (S [104,116,109,108])] fun v48 =>
                                            .cnd v48 (
                                             .ret .ret [tt]) (
                                             .op (.str .eql) [v901, (S [105,102,114,97,109,101])] fun v49 =>
                                             .cnd v49 (
                                              .ret .ret [tt]) (
                                              .op (.str .eql) [v901, (S [105,109,103])] fun v50 =>
                                              .cnd v50 (
                                               .ret .ret [tt]) (
                                               .op (.str .eql) [v901, (S [105,110,112,117,116])] fun v51 =>
                                               .cnd v51 (
                                                .ret .ret [tt]) (
                                                .op (.str .eql) [v901, (S [107,101,121,103,101,110])] fun v52 =>
                                                .cnd v52 (
                                                 .ret .ret [tt]) (
                                                 .op (.str .eql) [v901, (S [108,105])] fun v53 =>
                                                 .cnd v53 (
                                                  .ret .ret [tt]) (
                                                  .op (.str .eql) [v901, (S [108,105,110,107])] fun v54 =>
                                                  .cnd v54 (
                                                   .ret .ret [tt]) (
                                                   .op (.str .eql) [v901, (S [108,105,115,116,105,110,103])] fun v55 =>
                                                   .cnd v55 (
                                                    .ret .ret [tt]) (
                                                    .op (.str .eql) [v901, (S [109,97,105,110])] fun v56 =>
                                                    .cnd v56 (
                                                     .ret .ret [tt]) (
                                                     .op (.str .eql) [v901, (S [109,97,114,113,117,101,101])] fun v57 =>
                                                     .cnd v57 (
                                                      .ret .ret [tt]) (
                                                      .op (.str .eql) [v901, (S [109,101,110,117])] fun v58 =>
                                                      .cnd v58 (
                                                       .ret .ret [tt]) (
                                                       .op (.str .eql) [v901, (S [109,101,116,97])] fun v59 =>
                                                       .cnd v59 (
                                                        .ret .ret [tt]) (
                                                        .op (.str .eql) [v901, (S [110,97,118])] fun v60 =>
                                                        .cnd v60 (
                                                         .ret .ret [tt]) (
                                                         .op (.str .eql) [v901, (S [110,111,101,109,98,101,100])] fun v61 =>
                                                         .cnd v61 (
                                                          .ret .ret [tt]) (
                                                          .op (.str .eql) [v901, (S [110,111,102,114,97,109,101,115])] fun v62 =>
                                                          .cnd v62 (
                                                           .ret .ret [tt]) (
                                                           .op (.str .eql) [v901, (S [110,111,115,99,114,105,112,116])] fun v63 =>
                                                           .cnd v63 (
                                                            .ret .ret [tt]) (
                                                            .op (.str .eql) [v901, (S [111,98,106,101,99,116])] fun v64 =>
                                                            .cnd v64 (
                                                             .ret .ret [tt]) (
                                                             .op (.str .eql) [v901, (S [111,108])] fun v65 =>
                                                             .cnd v65 (
                                                              .ret .ret [tt]) (
                                                              .op (.str .eql) [v901, (S [112])] fun v66 =>
                                                              .cnd v66 (
                                                               .ret .ret [tt]) (
                                                               .op (.str .eql) [v901, (S [112,97,114,97,109])] fun v67 =>
                                                               .cnd v67 (
                                                                .ret .ret [tt]) (
                                                                .op (.str .eql) [v901, (S [112,108,97,105,110,116,101,120,116])] fun v68 =>
                                                                .cnd v68 (
                                                                 .ret .ret [tt]) (
                                                                 .op (.str .eql) [v901, (S [112,114,101])] fun v69 =>
                                                                 .cnd v69 (
                                                                  .ret .ret [tt]) (
                                                                  .op (.str .eql) [v901, (S [115,99,114,105,112,116])] fun v70 =>
                                                                  .cnd v70 (
                                                                   .ret .ret [tt]) (
                                                                   .op (.str .eql) [v901, (S [115,101,97,114,99,104])] fun v71 =>
                                                                   .cnd v71 (
                                                                    .ret .ret [tt]) (
                                                                    .op (.str .eql) [v901, (S [115,101,99,116,105,111,110])] fun v72 =>
                                                                    .cnd v72 (
                                                                     .ret .ret [tt]) (
                                                                     .op (.str .eql) [v901, (S [115,101,108,101,99,116])] fun v73 =>
                                                                     .cnd v73 (
                                                                      .ret .ret [tt]) (
                                                                      .op (.str .eql) [v901, (S [115,111,117,114,99,101])] fun v74 =>
                                                                      .cnd v74 (
                                                                       .ret .ret [tt]) (
                                                                       .op (.str .eql) [v901, (S [115,116,121,108,101])] fun v75 =>
                                                                       .cnd v75 (
                                                                        .ret .ret [tt]) (
                                                                        .op (.str .eql) [v901, (S [115,117,109,109,97,114,121])] fun v76 =>
                                                                        .cnd v76 (
                                                                         .ret .ret [tt]) (
                                                                         .op (.str .eql) [v901, (S [116,97,98,108,101])] fun v77 =>
                                                                         .cnd v77 (
                                                                          .ret .ret [tt]) (
                                                                          .op (.str .eql) [v901, (S [116,98,111,100,121])] fun v78 =>
                                                                          .cnd v78 (
                                                                           .ret .ret [tt]) (
                                                                           .op (.str .eql) [v901, (S [116,100])] fun v79 =>
                                                                           .cnd v79 (
                                                                            .ret .ret [tt]) (
                                                                            .op (.str .eql) [v901, (S [116,101,109,112,108,97,116,101])] fun v80 =>
                                                                            .cnd v80 (
                                                                             .ret .ret [tt]) (
                                                                             .op (.str .eql) [v901, (S [116,101,120,116,97,114,101,97])] fun v81 =>
                                                                             .cnd v81 (
                                                                              .ret .ret [tt]) (
                                                                              .op (.str .eql) [v901, (S [116,102,111,111,116])] fun v82 =>
                                                                              .cnd v82 (
                                                                               .ret .ret [tt]) (
                                                                               .op (.str .eql) [v901, (S [116,104])] fun v83 =>
                                                                               .cnd v83 (
                                                                                .ret .ret [tt]) (
                                                                                .op (.str .eql) [v901, (S [116,104,101,97,100])] fun v84 =>
                                                                                .cnd v84 (
                                                                                 .ret .ret [tt]) (
                                                                                 .op (.str .eql) [v901, (S [116,105,116,108,101])] fun v85 =>
                                                                                 .cnd v85 (
                                                                                  .ret .ret [tt]) (
                                                                                  .op (.str .eql) [v901, (S [116,114])] fun v86 =>
                                                                                  .cnd v86 (
                                                                                   .ret .ret [tt]) (
                                                                                   .op (.str .eql) [v901, (S [116,114,97,99,107])] fun v87 =>
                                                                                   .cnd v87 (
                                                                                    .ret .ret [tt]) (
                                                                                    .op (.str .eql) [v901, (S [117,108])] fun v88 =>
                                                                                    .cnd v88 (
                                                                                     .ret .ret [tt]) (
                                                                                     .op (.str .eql) [v901, (S [119,98,114])] fun v89 =>
                                                                                     .cnd v89 (
                                                                                      .ret .ret [tt]) (
                                                                                      .op (.str .eql) [v901, (S [120,109,112])] fun v90 =>
                                                                                      .cnd v90 (
                                                                                       .ret .ret [tt]) (
                                                                                       .ret .ret [ff])))))))))))))))))))))))))))))))))))))))))))))))))))))))))))))))))))))))))))))))))))) (
    .ret .ret [ff])))
theorem t42_eq (v900 v901 : AVal) : afun cx 42 [v900, v901] = t42 v900 v901 := by kernel_rfl
def t43 (v900 v901 : AVal) : IT :=
 .op (.int .eql) [v900, (I 1)] fun v0 =>
 .cnd v0 (
  .pcall 109 [(S [97,100,100,114,101,115,115,32,97,112,112,108,101,116,32,97,114,101,97,32,97,114,116,105,99,108,101,32,97,115,105,100,101,32,98,97,115,101,32,98,97,115,101,102,111,110,116,32,98,103,115,111,117,110,100,32,98,108,111,99,107,113,117,111,116,101,32,98,111,100,121,32,98,114,32,98,117,116,116,111,110,32,99,97,112,116,105,111,110,32,99,101,110,116,101,114,32,99,111,108,32,99,111,108,103,114,111,117,112,32,100,100,32,100,101,116,97,105,108,115,32,100,105,114,32,100,105,118,32,100,108,32,100,116,32,101,109,98,101,100,32,102,105,101,108,100,115,101,116,32,102,105,103,99,97,112,116,105,111,110,32,102,105,103,117,114,101,32,102,111,111,116,101,114,32,102,111,114,109,32,102,114,97,109,101,32,102,114,97,109,101,115,101,116,32,104,49,32,104,50,32,104,51,32,104,52,32,104,53,32,104,54,32,104,101,97,100,32,104,101,97,100,101,114,32,104,103,114,111,117,112,32,104,114,32,104,116,109,108,32,105,102,114,97,109,101,32,105,109,103,32,105,110,112,117,116,32,107,101,121,103,101,110,32,108,105,32,108,105,110,107,32,108,105,115,116,105,110,103,32,109,97,105,110,32,109,97,114,113,117,101,101,32,109,101,110,117,32,109,101,116,97,32,110,97,118,32,110,111,101,109,98,101,100,32,110,111,102,114,97,109,101,115,32,110,111,115,99,114,105,112,116,32,111,98,106,101,99,116,32,111,108,32,112,32,112,97,114,97,109,32,112,108,97,105,110,116,101,120,116,32,112,114,101,32,115,99,114,105,112,116,32,115,101,97,114,99,104,32,115,101,99,116,105,111,110,32,115,101,108,101,99,116,32,115,111,117,114,99,101,32,115,116,121,108,101,32,115,117,109,109,97,114,121,32,116,97,98,108,101,32,116,98,111,100,121,32,116,100,32,116,101,109,112,108,97,116,101,32,116,101,120,116,97,114,101,97,32,116,102,111,111,116,32,116,104,32,116,104,101,97,100,32,116,105,116,108,101,32,116,114,32,116,114,97,99,107,32,117,108,32,119,98,114,32,120,109,112]), v901] fun v1 =>
  .ret .ret [v1]) (
  .op (.int .eql) [v900, (I 3)] fun v2 =>
  .cnd v2 (
   .pcall 109 [(S [109,105,32,109,110,32,109,111,32,109,115,32,109,116,101,120,116]), v901] fun v3 =>
   .cnd v3 (
    .ret .ret [tt]) (
    .op (.str .eql) [v901, (S [97,110,110,111,116,97,116,105,111,110,45,120,109,108])] fun v4 =>
    .ret .ret [v4])) (
   .op (.int .eql) [v900, (I 2)] fun v5 =>
   .cnd v5 (
    .pcall 109 [(S [100,101,115,99,32,102,111,114,101,105,103,110,79,98,106,101,99,116,32,116,105,116,108,101]), v901] fun v6 =>
    .ret .ret [v6]) (
    .ret .ret [ff])))
theorem t43_eq (v900 v901 : AVal) : afun cx 43 [v900, v901] = t43 v900 v901 := by kernel_rfl
def t44 (v900 v901 : AVal) : IT :=
 .op (.int .eql) [v900, (I 3)] fun v0 =>
 .cnd v0 (
  .op (.str .eql) [v901, (S [109,105])] fun v1 =>
  .cnd v1 (
   .ret .ret [tt]) (
   .op (.str .eql) [v901, (S [109,110])] fun v2 =>
   .cnd v2 (
    .ret .ret [tt]) (
    .op (.str .eql) [v901, (S [109,111])] fun v3 =>
    .cnd v3 (
     .ret .ret [tt]) (
     .op (.str .eql) [v901, (S [109,115])] fun v4 =>
     .cnd v4 (
      .ret .ret [tt]) (
      .op (.str .eql) [v901, (S [109,116,101,120,116])] fun v5 =>
      .ret .ret [v5]))))) (
  .ret .ret [ff])
theorem t44_eq (v900 v901 : AVal) : afun cx 44 [v900, v901] = t44 v900 v901 := by kernel_rfl
def t45 (v900 v901 : AVal) : IT :=
 .op (.int .eql) [v900, (I 3)] fun v0 =>
 .cnd v0 (
  .pcall 109 [(S [109,105,32,109,110,32,109,111,32,109,115,32,109,116,101,120,116]), v901] fun v1 =>
  .ret .ret [v1]) (
  .ret .ret [ff])
theorem t45_eq (v900 v901 : AVal) : afun cx 45 [v900, v901] = t45 v900 v901 := by kernel_rfl
def t46 (v900 v901 v902 : AVal) : IT :=
 .op (.int .eql) [v900, (I 2)] fun v0 =>
 .cnd v0 (
  .pcall 42 [v900, v901] fun v1 =>
  .ret .ret [v1]) (
  .op (.int .neq) [v900, (I 3)] fun v2 =>
  .cnd v2 (
   .ret .ret [ff]) (
   .op (.str .neq) [v901, (S [97,110,110,111,116,97,116,105,111,110,45,120,109,108])] fun v3 =>
   .cnd v3 (
    .ret .ret [ff]) (
    .call 110 [v902, (.func (.func 111) [] [])] fun v4 =>
    .op (.int .geq) [v4, (I 0)] fun v5 =>
    .cnd v5 (
     .op (.eaddr 3) [v902, v4] fun v6 =>
     .op (.faddr 2) [v6] fun v7 =>
     .load none v7 fun v8 =>
     .pcall 112 [v8, (S [116,101,120,116,47,104,116,109,108])] fun v9 =>
     .cnd v9 (
      .ret .ret [tt]) (
      .op (.eaddr 3) [v902, v4] fun v10 =>
      .op (.faddr 2) [v10] fun v11 =>
      .load none v11 fun v12 =>
      .pcall 112 [v12, (S [97,112,112,108,105,99,97,116,105,111,110,47,120,104,116,109,108,43,120,109,108])] fun v13 =>
      .ret .ret [v13])) (
     .ret .ret [ff]))))
theorem t46_eq (v900 v901 v902 : AVal) : afun cx 46 [v900, v901, v902] = t46 v900 v901 v902 := by kernel_rfl
def t47 (v900 v901 v902 : AVal) : IT :=
 .op (.int .eql) [v900, (I 2)] fun v0 =>
 .cnd v0 (
  .pcall 109 [(S [100,101,115,99,32,102,111,114,101,105,103,110,79,98,106,101,99,116,32,116,105,116,108,101]), v901] fun v1 =>
  .ret .ret [v1]) (
  .op (.int .neq) [v900, (I 3)] fun v2 =>
  .cnd v2 (
   .ret .ret [ff]) (
   .op (.str .neq) [v901, (S [97,110,110,111,116,97,116,105,111,110,45,120,109,108])] fun v3 =>
   .cnd v3 (
    .ret .ret [ff]) (
    .loop 6 [ff, (I 0)] (fun c4 =>
     .op (.len false) [v902] fun v5 =>
     .op (.int .lss) [(g c4 1), v5] fun v6 =>
     .cnd v6 (
      .op (.eaddr 3) [v902, (g c4 1)] fun v7 =>
      .op (.faddr 0) [v7] fun v8 =>
      .load none v8 fun v9 =>
      .op (.int .eql) [v9, (I 0)] fun v10 =>
      .cnd v10 (
       .op (.eaddr 3) [v902, (g c4 1)] fun v11 =>
       .op (.faddr 1) [v11] fun v12 =>
       .load none v12 fun v13 =>
       .op (.str .eql) [v13, (S [101,110,99,111,100,105,110,103])] fun v14 =>
       .cnd v14 (
        .op (.eaddr 3) [v902, (g c4 1)] fun v15 =>
        .op (.faddr 2) [v15] fun v16 =>
        .load none v16 fun v17 =>
        .pcall 113 [v17] fun v18 =>
        .op (.str .eql) [v18, (S [116,101,120,116,47,104,116,109,108])] fun v19 =>
        .cnd v19 (
         .ret .ret [tt, (g c4 1)]) (
         .op (.str .eql) [v18, (S [97,112,112,108,105,99,97,116,105,111,110,47,120,104,116,109,108,43,120,109,108])] fun v20 =>
         .ret .ret [v20, (g c4 1)])) (
        .op (.int .add) [(g c4 1), (I 1)] fun v21 =>
        .ret .normal [(g c4 0), v21])) (
       .op (.int .add) [(g c4 1), (I 1)] fun v22 =>
       .ret .normal [(g c4 0), v22])) (
      .ret (.exit 0) [(g c4 0), (g c4 1)])) (
    fun x c23 => match x with
    | .normal =>
     .ret .ret [ff]
    | .exit i =>
     if i = 0 then
      .ret .ret [ff]
     else
     .fail
    | .ret =>
     .ret .ret [(g c23 0)]))))
theorem t47_eq (v900 v901 v902 : AVal) : afun cx 47 [v900, v901, v902] = t47 v900 v901 v902 := by kernel_rfl
def t48 (v900 v901 : AVal) : IT :=
 .op (.int .lss) [v901, (I 0)] fun v0 =>
 .cnd v0 (
  .op (.mkagg [(I 0), (I 0), (S []), ff] []) [] fun v1 =>
  .cells 4 v1 fun c2 =>
  .ret .ret [(.agg [(g c2 0), (g c2 1), (g c2 2), (g c2 3)])]) (
  .call 34 [v900] fun v3 =>
  .op (.int .geq) [v901, v3] fun v4 =>
  .cnd v4 (
   .op (.mkagg [(I 0), (I 0), (S []), ff] []) [] fun v5 =>
   .cells 4 v5 fun c6 =>
   .ret .ret [(.agg [(g c6 0), (g c6 1), (g c6 2), (g c6 3)])]) (
   .op .nonnil [v900] fun v7 =>
   .op (.faddr 0) [v7] fun v8 =>
   .load none v8 fun v9 =>
   .op (.eaddr 4) [v9, v901] fun v10 =>
   .load (some 4) v10 fun v11 =>
   .cells 4 v11 fun c12 =>
   .ret .ret [(.agg [(g c12 0), (g c12 1), (g c12 2), (g c12 3)])]))
theorem t48_eq (v900 v901 : AVal) : afun cx 48 [v900, v901] = t48 v900 v901 := by kernel_rfl
def t49 (v900 v901 : AVal) : IT :=
 .loop 3 [(I (-1)), (I 0)] (fun c0 =>
  .op (.len false) [v900] fun v1 =>
  .op (.int .lss) [(g c0 1), v1] fun v2 =>
  .cnd v2 (
   .op (.eaddr 4) [v900, (g c0 1)] fun v3 =>
   .op (.faddr 0) [v3] fun v4 =>
   .load none v4 fun v5 =>
   .op (.int .eql) [v5, v901] fun v6 =>
   .cnd v6 (
    .op (.int .add) [(g c0 1), (I 1)] fun v7 =>
    .ret .normal [(g c0 1), v7]) (
    .op (.int .add) [(g c0 1), (I 1)] fun v8 =>
    .ret .normal [(g c0 0), v8])) (
   .ret (.exit 0) [(g c0 0), (g c0 1)])) (
 fun x c9 => match x with
 | .normal =>
  .ret .ret [(g c9 0)]
 | .exit i =>
  if i = 0 then
   .ret .ret [(g c9 0)]
  else
  .fail
 | .ret =>
  .ret .ret [(I 0)])
theorem t49_eq (v900 v901 : AVal) : afun cx 49 [v900, v901] = t49 v900 v901 := by kernel_rfl
def t50 (v900 v901 : AVal) : IT :=
 .loop 3 [(I (-1)), (I 0)] (fun c0 =>
  .op (.len false) [v900] fun v1 =>
  .op (.int .lss) [(g c0 1), v1] fun v2 =>
  .cnd v2 (
   .op (.eaddr 4) [v900, (g c0 1)] fun v3 =>
   .load (some 4) v3 fun v4 =>
   .op (.mksl 1) [v901] fun v5 =>
   .call 35 [v4, v5] fun v6 =>
   .cnd v6 (
    .op (.int .add) [(g c0 1), (I 1)] fun v7 =>
    .ret .normal [(g c0 1), v7]) (
    .op (.int .add) [(g c0 1), (I 1)] fun v8 =>
    .ret .normal [(g c0 0), v8])) (
   .ret (.exit 0) [(g c0 0), (g c0 1)])) (
 fun x c9 => match x with
 | .normal =>
  .ret .ret [(g c9 0)]
 | .exit i =>
  if i = 0 then
   .ret .ret [(g c9 0)]
  else
  .fail
 | .ret =>
  .ret .ret [(I 0)])
theorem t50_eq (v900 v901 : AVal) : afun cx 50 [v900, v901] = t50 v900 v901 := by kernel_rfl
def t51 (v900 v901 : AVal) : IT :=
 .call 40 [v900, v901] fun v0 =>
 .op (.int .add) [v0, (I 1)] fun v1 =>
 .loop 3 [(I 0), v1] (fun c2 =>
  .op (.int .geq) [v0, (I 0)] fun v3 =>
  .cnd v3 (
   .call 34 [v900] fun v4 =>
   .op (.int .lss) [(g c2 1), v4] fun v5 =>
   .cnd v5 (
    .op .nonnil [v900] fun v6 =>
    .op (.faddr 0) [v6] fun v7 =>
    .load none v7 fun v8 =>
    .op (.eaddr 4) [v8, (g c2 1)] fun v9 =>
    .op (.faddr 1) [v9] fun v10 =>
    .load none v10 fun v11 =>
    .op .nonnil [v900] fun v12 =>
    .op (.faddr 0) [v12] fun v13 =>
    .load none v13 fun v14 =>
    .op (.eaddr 4) [v14, (g c2 1)] fun v15 =>
    .op (.faddr 2) [v15] fun v16 =>
    .load none v16 fun v17 =>
    .pcall 42 [v11, v17] fun v18 =>
    .cnd v18 (
     .ret .ret [(g c2 1), (g c2 1)]) (
     .op (.int .add) [(g c2 1), (I 1)] fun v19 =>
     .ret .normal [(g c2 0), v19])) (
    .ret (.exit 0) [(g c2 0), (g c2 1)])) (
   .ret (.exit 0) [(g c2 0), (g c2 1)])) (
 fun x c20 => match x with
 | .normal =>
  .ret .ret [(I (-1))]
 | .exit i =>
  if i = 0 then
   .ret .ret [(I (-1))]
  else
  .fail
 | .ret =>
  .ret .ret [(g c20 0)])
theorem t51_eq (v900 v901 : AVal) : afun cx 51 [v900, v901] = t51 v900 v901 := by kernel_rfl
def t52 (v900 v901 : AVal) : IT :=
 .call 49 [v900, v901] fun v0 =>
 .op (.int .lss) [v0, (I 0)] fun v1 =>
 .cnd v1 (
  .ret .ret [(I (-1))]) (
  .op (.int .add) [v0, (I 1)] fun v2 =>
  .loop 5 [(I 0), v2] (fun c3 =>
   .op (.len false) [v900] fun v4 =>
   .op (.int .lss) [(g c3 1), v4] fun v5 =>
   .cnd v5 (
    .op (.eaddr 4) [v900, (g c3 1)] fun v6 =>
    .op (.faddr 1) [v6] fun v7 =>
    .load none v7 fun v8 =>
    .op (.eaddr 4) [v900, (g c3 1)] fun v9 =>
    .op (.faddr 2) [v9] fun v10 =>
    .load none v10 fun v11 =>
    .pcall 43 [v8, v11] fun v12 =>
    .cnd v12 (
     .ret .ret [(g c3 1), (g c3 1)]) (
     .op (.int .add) [(g c3 1), (I 1)] fun v13 =>
     .ret .normal [(g c3 0), v13])) (
    .ret (.exit 0) [(g c3 0), (g c3 1)])) (
  fun x c14 => match x with
  | .normal =>
   .ret .ret [(I (-1))]
  | .exit i =>
   if i = 0 then
    .ret .ret [(I (-1))]
   else
   .fail
  | .ret =>
   .ret .ret [(g c14 0)]))
theorem t52_eq (v900 v901 : AVal) : afun cx 52 [v900, v901] = t52 v900 v901 := by kernel_rfl
def t53 (v900 : AVal) : IT :=
 .cells 12 v900 fun c0 =>
 .op (.int .eql) [(g c0 0), (I 3)] fun v1 =>
 .cnd v1 (
  .op (.str .eql) [(g c0 1), (S [98,114])] fun v2 =>
  .cnd v2 (
   .ret .ret [tt]) (
   .op (.str .eql) [(g c0 1), (S [112])] fun v3 =>
   .ret .ret [v3])) (
  .op (.int .neq) [(g c0 0), (I 2)] fun v4 =>
  .cnd v4 (
   .ret .ret [ff]) (
   .op (.str .eql) [(g c0 1), (S [98])] fun v5 =>
   .cnd v5 (
    .ret .ret [tt]) (
    .op (.str .eql) [(g c0 1), (S [98,105,103])] fun v6 =>
    .cnd v6 (
     .ret .ret [tt]) (
     .op (.str .eql) [(g c0 1), (S [98,108,111,99,107,113,117,111,116,101])] fun v7 =>
     .cnd v7 (
      .ret .ret [tt]) (
      .op (.str .eql) [(g c0 1), (S [98,111,100,121])] fun v8 =>
      .cnd v8 (
       .ret .ret [tt]) (
       .op (.str .eql) [(g c0 1), (S [98,114])] fun v9 =>
       .cnd v9 (
        .ret .ret [tt]) (
        .op (.str .eql) [(g c0 1), (S [99,101,110,116,101,114])] fun v10 =>
        .cnd v10 (
         .ret .ret [tt]) (
         .op (.str .eql) [(g c0 1), (S [99,111,100,101])] fun v11 =>
         .cnd v11 (
          .ret .ret [tt]) (
          .op (.str .eql) [(g c0 1), (S [100,100])] fun v12 =>
          .cnd v12 (
           .ret .ret [tt]) (
           .op (.str .eql) [(g c0 1), (S [100,105,118])] fun v13 =>
           .cnd v13 (
            .ret .ret [tt]) (
            .op (.str .eql) [(g c0 1), (S [100,108])] fun v14 =>
            .cnd v14 (
             .ret .ret [tt]) (
             .op (.str .eql) [(g c0 1), (S [100,116])] fun v15 =>
             .cnd v15 (
              .ret .ret [tt]) (
              .op (.str .eql) [(g c0 1), (S [101,109])] fun v16 =>
              .cnd v16 (
               .ret .ret [tt]) (
               .op (.str .eql) [(g c0 1), (S [101,109,98,101,100])] fun v17 =>
               .cnd v17 (
                .ret .ret [tt]) (
                .op (.str .eql) [(g c0 1), (S [104,49])] fun v18 =>
                .cnd v18 (
                 .ret .ret [tt]) (
                 .op (.str .eql) [(g c0 1), (S [104,50])] fun v19 =>
                 .cnd v19 (
                  .ret .ret [tt]) (
                  .op (.str .eql) [(g c0 1), (S [104,51])] fun v20 =>
                  .cnd v20 (
                   .ret .ret [tt]) (
                   .op (.str .eql) [(g c0 1), (S [104,52])] fun v21 =>
                   .cnd v21 (
                    .ret .ret [tt]) (
                    .op (.str .eql) [(g c0 1), (S [104,53])] fun v22 =>
                    .cnd v22 (
                     .ret .ret [tt]) (
                     .op (.str .eql) [(g c0 1), (S [104,54])] fun v23 =>
                     .cnd v23 (
                      .ret .ret [tt]) (
                      .op (.str .eql) [(g c0 1), (S [104,101,97,100])] fun v24 =>
                      .cnd v24 (
                       .ret .ret [tt]) (
                       .op (.str .eql) [(g c0 1), (S [104,114])] fun v25 =>
                       .cnd v25 (
                        .ret .ret [tt]) (
                        .op (.str .eql) [(g c0 1), (S [105])] fun v26 =>
                        .cnd v26 (
                         .ret .ret [tt]) (
                         .op (.str .eql) [(g c0 1), (S [105,109,103])] fun v27 =>
                         .cnd v27 (
                          .ret .ret [tt]) (
                          .op (.str .eql) [(g c0 1), (S [108,105])] fun v28 =>
                          .cnd v28 (
                           .ret .ret [tt]) (
                           .op (.str .eql) [(g c0 1), (S [108,105,115,116,105,110,103])] fun v29 =>
                           .cnd v29 (
                            .ret .ret [tt]) (
                            .op (.str .eql) [(g c0 1), (S [109,101,110,117])] fun v30 =>
                            .cnd v30 (
                             .ret .ret [tt]) (
                             .op (.str .eql) [(g c0 1), (S [109,101,116,97])] fun v31 =>
                             .cnd v31 (
                              .ret .ret [tt]) (
                              .op (.str .eql) [(g c0 1), (S [110,111,98,114])] fun v32 =>
                              .cnd v32 (
                               .ret .ret [tt]) (
                               .op (.str .eql) [(g c0 1), (S [111,108])] fun v33 =>
                               .cnd v33 (
                                .ret .ret [tt]) (
                                .op (.str .eql) [(g c0 1), (S [112])] fun v34 =>
                                .cnd v34 (
                                 .ret .ret [tt]) (
                                 .op (.str .eql) [(g c0 1), (S [112,114,101])] fun v35 =>
                                 .cnd v35 (
                                  .ret .ret [tt]) (
                                  .op (.str .eql) [(g c0 1), (S [114,117,98,121])] fun v36 =>
                                  .cnd v36 (
                                   .ret .ret [tt]) (
                                   .op (.str .eql) [(g c0 1), (S [115])] fun v37 =>
                                   .cnd v37 (
                                    .ret .ret [tt]) (
                                    .op (.str .eql) [(g c0 1), (S [115,109,97,108,108])] fun v38 =>
                                    .cnd v38 (
                                     .ret .ret [tt]) (
                                     .op (.str .eql) [(g c0 1), (S [115,112,97,110])] fun v39 =>
                                     .cnd v39 (
                                      .ret .ret [tt]) (
                                      .op (.str .eql) [(g c0 1), (S [115,116,114,105,107,101])] fun v40 =>
                                      .cnd v40 (
                                       .ret .ret [tt]) (
                                       .op (.str .eql) [(g c0 1), (S [115,116,114,111,110,103])] fun v41 =>
                                       .cnd v41 (
                                        .ret .ret [tt]) (
                                        .op (.str .eql) [(g c0 1), (S [115,117,98])] fun v42 =>
                                        .cnd v42 (
                                         .ret .ret [tt]) (
                                         .op (.str .eql) [(g c0 1), (S [115,117,112])] fun v43 =>
                                         .cnd v43 (
                                          .ret .ret [tt]) (
                                          .op (.str .eql) [(g c0 1), (S [116,97,98,108,101])] fun v44 =>
                                          .cnd v44 (
                                           .ret .ret [tt]) (
                                           .op (.str .eql) [(g c0 1), (S [116,116])] fun v45 =>
                                           .cnd v45 (
                                            .ret .ret [tt]) (
                                            .op (.str .eql) [(g c0 1), (S [117])] fun v46 =>
                                            .cnd v46 (
                                             .ret .ret [tt]) (
                                             .op (.str .eql) [(g c0 1), (S [117,108])] fun v47 =>
                                             .cnd v47 (
                                              .ret .ret [tt]) (
                                              .op (.str .eql) [(g c0 1), (S [118,97,114])] fun v48 =>
                                              .cnd v48 (
                                               .ret .ret [tt]) (
                                               .op (.str .eql) [(g c0 1), (S [102,111,110,116])] fun v49 =>
                                               .cnd v49 (
                                                .call 114 [(g c0 8), (.func (.func 115) [] [])] fun v50 =>
                                                .ret .ret [v50]) (
                                                .ret .ret [ff])))))))))))))))))))))))))))))))))))))))))))))))
theorem t53_eq (v900 : AVal) : afun cx 53 [v900] = t53 v900 := by kernel_rfl
def t54 (v900 : AVal) : IT :=
 .cells 12 v900 fun c0 =>
 .op (.int .eql) [(g c0 0), (I 3)] fun v1 =>
 .cnd v1 (
  .op (.str .eql) [(g c0 1), (S [98,114])] fun v2 =>
  .cnd v2 (
   .ret .ret [tt]) (
   .op (.str .eql) [(g c0 1), (S [112])] fun v3 =>
   .ret .ret [v3])) (
  .op (.int .eql) [(g c0 0), (I 2)] fun v4 =>
  .cnd v4 (
   .op (.str .neq) [(g c0 1), (S [102,111,110,116])] fun v5 =>
   .cnd v5 (
    .pcall 109 [(S [98,32,98,105,103,32,98,108,111,99,107,113,117,111,116,101,32,98,111,100,121,32,98,114,32,99,101,110,116,101,114,32,99,111,100,101,32,100,100,32,100,105,118,32,100,108,32,100,116,32,101,109,32,101,109,98,101,100,32,104,49,32,104,50,32,104,51,32,104,52,32,104,53,32,104,54,32,104,101,97,100,32,104,114,32,105,32,105,109,103,32,108,105,32,108,105,115,116,105,110,103,32,109,101,110,117,32,109,101,116,97,32,110,111,98,114,32,111,108,32,112,32,112,114,101,32,114,117,98,121,32,115,32,115,109,97,108,108,32,115,112,97,110,32,115,116,114,105,107,101,32,115,116,114,111,110,103,32,115,117,98,32,115,117,112,32,116,97,98,108,101,32,116,116,32,117,32,117,108,32,118,97,114]), (g c0 1)] fun v6 =>
    .ret .ret [v6]) (
    .loop 8 [ff, (I 0)] (fun c7 =>
     .op (.len false) [(g c0 8)] fun v8 =>
     .op (.int .lss) [(g c7 1), v8] fun v9 =>
     .cnd v9 (
      .op (.eaddr 3) [(g c0 8), (g c7 1)] fun v10 =>
      .op (.faddr 1) [v10] fun v11 =>
      .load none v11 fun v12 =>
      .pcall 109 [(S [99,111,108,111,114,32,102,97,99,101,32,115,105,122,101]), v12] fun v13 =>
      .cnd v13 (
       .ret .ret [tt, (g c7 1)]) (
       .op (.int .add) [(g c7 1), (I 1)] fun v14 =>
       .ret .normal [(g c7 0), v14])) (
      .ret (.exit 1) [(g c7 0), (g c7 1)])) (
    fun x c15 => match x with
    | .normal =>
     .ret .ret [ff]
    | .exit i =>
     if i = 1 then
      .ret .ret [ff]
     else
     if i = 0 then
      .ret .ret [ff]
     else
     .fail
    | .ret =>
     .ret .ret [(g c15 0)]))) (
   .ret .ret [ff]))
theorem t54_eq (v900 : AVal) : afun cx 54 [v900] = t54 v900 := by kernel_rfl
def t55 (v900 : AVal) : IT :=
 .op (.str .eql) [v900, (S [97])] fun v0 =>
 .cnd v0 (
  .ret .ret [tt]) (
  .op (.str .eql) [v900, (S [98])] fun v1 =>
  .cnd v1 (
   .ret .ret [tt]) (
   .op (.str .eql) [v900, (S [98,105,103])] fun v2 =>
   .cnd v2 (
    .ret .ret [tt]) (
    .op (.str .eql) [v900, (S [99,111,100,101])] fun v3 =>
    .cnd v3 (
     .ret .ret [tt]) (
     .op (.str .eql) [v900, (S [101,109])] fun v4 =>
     .cnd v4 (
      .ret .ret [tt]) (
      .op (.str .eql) [v900, (S [102,111,110,116])] fun v5 =>
      .cnd v5 (
       .ret .ret [tt]) (
       .op (.str .eql) [v900, (S [105])] fun v6 =>
       .cnd v6 (
        .ret .ret [tt]) (
        .op (.str .eql) [v900, (S [110,111,98,114])] fun v7 =>
        .cnd v7 (
         .ret .ret [tt]) (
         .op (.str .eql) [v900, (S [115])] fun v8 =>
         .cnd v8 (
          .ret .ret [tt]) (
          .op (.str .eql) [v900, (S [115,109,97,108,108])] fun v9 =>
          .cnd v9 (
           .ret .ret [tt]) (
           .op (.str .eql) [v900, (S [115,116,114,105,107,101])] fun v10 =>
           .cnd v10 (
            .ret .ret [tt]) (
            .op (.str .eql) [v900, (S [115,116,114,111,110,103])] fun v11 =>
            .cnd v11 (
             .ret .ret [tt]) (
             .op (.str .eql) [v900, (S [116,116])] fun v12 =>
             .cnd v12 (
              .ret .ret [tt]) (
              .op (.str .eql) [v900, (S [117])] fun v13 =>
              .cnd v13 (
               .ret .ret [tt]) (
               .ret .ret [ff]))))))))))))))
theorem t55_eq (v900 : AVal) : afun cx 55 [v900] = t55 v900 := by kernel_rfl
def t56 (v900 : AVal) : IT :=
 .pcall 109 [(S [97,32,98,32,98,105,103,32,99,111,100,101,32,101,109,32,102,111,110,116,32,105,32,110,111,98,114,32,115,32,115,109,97,108,108,32,115,116,114,105,107,101,32,115,116,114,111,110,103,32,116,116,32,117]), v900] fun v0 =>
 .ret .ret [v0]
theorem t56_eq (v900 : AVal) : afun cx 56 [v900] = t56 v900 := by kernel_rfl
def t57 (v900 : AVal) : IT :=
 .op (.str .eql) [v900, (S [97,114,101,97])] fun v0 =>
 .cnd v0 (
  .ret .ret [tt]) (
  .op (.str .eql) [v900, (S [98,97,115,101])] fun v1 =>
  .cnd v1 (
   .ret .ret [tt]) (
   .op (.str .eql) [v900, (S [98,97,115,101,102,111,110,116])] fun v2 =>
   .cnd v2 (
    .ret .ret [tt]) (
    .op (.str .eql) [v900, (S [98,103,115,111,117,110,100])] fun v3 =>
    .cnd v3 (
     .ret .ret [tt]) (
     .op (.str .eql) [v900, (S [98,114])] fun v4 =>
     .cnd v4 (
      .ret .ret [tt]) (
      .op (.str .eql) [v900, (S [99,111,108])] fun v5 =>
      .cnd v5 (
       .ret .ret [tt]) (
       .op (.str .eql) [v900, (S [101,109,98,101,100])] fun v6 =>
       .cnd v6 (
        .ret .ret [tt]) (
        .op (.str .eql) [v900, (S [102,114,97,109,101])] fun v7 =>
        .cnd v7 (
         .ret .ret [tt]) (
         .op (.str .eql) [v900, (S [104,114])] fun v8 =>
         .cnd v8 (
          .ret .ret [tt]) (
          .op (.str .eql) [v900, (S [105,109,103])] fun v9 =>
          .cnd v9 (
           .ret .ret [tt]) (
           .op (.str .eql) [v900, (S [105,110,112,117,116])] fun v10 =>
           .cnd v10 (
            .ret .ret [tt]) (
            .op (.str .eql) [v900, (S [107,101,121,103,101,110])] fun v11 =>
            .cnd v11 (
             .ret .ret [tt]) (
             .op (.str .eql) [v900, (S [108,105,110,107])] fun v12 =>
             .cnd v12 (
              .ret .ret [tt]) (
              .op (.str .eql) [v900, (S [109,101,116,97])] fun v13 =>
              .cnd v13 (
               .ret .ret [tt]) (
               .op (.str .eql) [v900, (S [112,97,114,97,109])] fun v14 =>
               .cnd v14 (
                .ret .ret [tt]) (
                .op (.str .eql) [v900, (S [115,111,117,114,99,101])] fun v15 =>
                .cnd v15 (
                 .ret .ret [tt]) (
                 .op (.str .eql) [v900, (S [116,114,97,99,107])] fun v16 =>
                 .cnd v16 (
                  .ret .ret [tt]) (
                  .op (.str .eql) [v900, (S [119,98,114])] fun v17 =>
                  .cnd v17 (
                   .ret .ret [tt]) (
                   .ret .ret [ff]))))))))))))))))))
theorem t57_eq (v900 : AVal) : afun cx 57 [v900] = t57 v900 := by kernel_rfl
def t58 (v900 : AVal) : IT :=
 .pcall 109 [(S [97,114,101,97,32,98,97,115,101,32,98,97,115,101,102,111,110,116,32,98,103,115,111,117,110,100,32,98,114,32,99,111,108,32,101,109,98,101,100,32,102,114,97,109,101,32,104,114,32,105,109,103,32,105,110,112,117,116,32,107,101,121,103,101,110,32,108,105,110,107,32,109,101,116,97,32,112,97,114,97,109,32,115,111,117,114,99,101,32,116,114,97,99,107,32,119,98,114]), v900] fun v0 =>
 .ret .ret [v0]
theorem t58_eq (v900 : AVal) : afun cx 58 [v900] = t58 v900 := by kernel_rfl
def t59 (v900 : AVal) : IT :=
 .op (.len true) [v900] fun v0 =>
 .op (.int .eql) [v0, (I 2)] fun v1 =>
 .cnd v1 (
  .op .sidx [v900, (I 0)] fun v2 =>
  .op (.int .eql) [v2, (.int .u8 104)] fun v3 =>
  .cnd v3 (
   .op .sidx [v900, (I 1)] fun v4 =>
   .op (.int .geq) [v4, (.int .u8 49)] fun v5 =>
   .cnd v5 (
    .op .sidx [v900, (I 1)] fun v6 =>
    .op (.int .leq) [v6, (.int .u8 54)] fun v7 =>
    .ret .ret [v7]) (
    .ret .ret [ff])) (
   .ret .ret [ff])) (
  .ret .ret [ff])
theorem t59_eq (v900 : AVal) : afun cx 59 [v900] = t59 v900 := by kernel_rfl
def t60 (v900 : AVal) : IT :=
 .pcall 109 [(S [104,49,32,104,50,32,104,51,32,104,52,32,104,53,32,104,54]), v900] fun v0 =>
 .ret .ret [v0]
theorem t60_eq (v900 : AVal) : afun cx 60 [v900] = t60 v900 := by kernel_rfl
def t61 (v900 : AVal) : IT :=
 .pcall 109 [(S [100,100,32,100,116,32,108,105,32,111,112,116,103,114,111,117,112,32,111,112,116,105,111,110,32,112,32,114,98,32,114,112,32,114,116,32,114,116,99]), v900] fun v0 =>
 .ret .ret [v0]
theorem t61_eq (v900 : AVal) : afun cx 61 [v900] = t61 v900 := by kernel_rfl
def t62 (v900 : AVal) : IT :=
 .op (.str .eql) [v900, (S [99,97,112,116,105,111,110])] fun v0 =>
 .cnd v0 (
  .ret .ret [tt]) (
  .op (.str .eql) [v900, (S [99,111,108,103,114,111,117,112])] fun v1 =>
  .cnd v1 (
   .ret .ret [tt]) (
   .op (.str .eql) [v900, (S [116,98,111,100,121])] fun v2 =>
   .cnd v2 (
    .ret .ret [tt]) (
    .op (.str .eql) [v900, (S [116,100])] fun v3 =>
    .cnd v3 (
     .ret .ret [tt]) (
     .op (.str .eql) [v900, (S [116,102,111,111,116])] fun v4 =>
     .cnd v4 (
      .ret .ret [tt]) (
      .op (.str .eql) [v900, (S [116,104])] fun v5 =>
      .cnd v5 (
       .ret .ret [tt]) (
       .op (.str .eql) [v900, (S [116,104,101,97,100])] fun v6 =>
       .cnd v6 (
        .ret .ret [tt]) (
        .op (.str .eql) [v900, (S [116,114])] fun v7 =>
        .cnd v7 (
         .ret .ret [tt]) (
         .pcall 36 [v900] fun v8 =>
         .ret .ret [v8]))))))))
theorem t62_eq (v900 : AVal) : afun cx 62 [v900] = t62 v900 := by kernel_rfl
def t63 (v900 : AVal) : IT :=
 .pcall 109 [(S [100,100,32,100,116,32,108,105,32,111,112,116,103,114,111,117,112,32,111,112,116,105,111,110,32,112,32,114,98,32,114,112,32,114,116,32,114,116,99]), v900] fun v0 =>
 .cnd v0 (
  .ret .ret [tt]) (
  .pcall 109 [(S [99,97,112,116,105,111,110,32,99,111,108,103,114,111,117,112,32,116,98,111,100,121,32,116,100,32,116,102,111,111,116,32,116,104,32,116,104,101,97,100,32,116,114]), v900] fun v1 =>
  .ret .ret [v1])
theorem t63_eq (v900 : AVal) : afun cx 63 [v900] = t63 v900 := by kernel_rfl
def t64 (v900 : AVal) : IT :=
 .pcall 116 [v900, (S [97,108,116,71,108,121,112,104,32,97,108,116,71,108,121,112,104,68,101,102,32,97,108,116,71,108,121,112,104,73,116,101,109,32,97,110,105,109,97,116,101,67,111,108,111,114,32,97,110,105,109,97,116,101,77,111,116,105,111,110,32,97,110,105,109,97,116,101,84,114,97,110,115,102,111,114,109,32,99,108,105,112,80,97,116,104,32,102,101,66,108,101,110,100,32,102,101,67,111,108,111,114,77,97,116,114,105,120,32,102,101,67,111,109,112,111,110,101,110,116,84,114,97,110,115,102,101,114,32,102,101,67,111,109,112,111,115,105,116,101,32,102,101,67,111,110,118,111,108,118,101,77,97,116,114,105,120,32,102,101,68,105,102,102,117,115,101,76,105,103,104,116,105,110,103,32,102,101,68,105,115,112,108,97,99,101,109,101,110,116,77,97,112,32,102,101,68,105,115,116,97,110,116,76,105,103,104,116,32,102,101,68,114,111,112,83,104,97,100,111,119,32,102,101,70,108,111,111,100,32,102,101,70,117,110,99,65,32,102,101,70,117,110,99,66,32,102,101,70,117,110,99,71,32,102,101,70,117,110,99,82,32,102,101,71,97,117,115,115,105,97,110,66,108,117,114,32,102,101,73,109,97,103,101,32,102,101,77,101,114,103,101,32,102,101,77,101,114,103,101,78,111,100,101,32,102,101,77,111,114,112,104,111,108,111,103,121,32,102,101,79,102,102,115,101,116,32,102,101,80,111,105,110,116,76,105,103,104,116,32,102,101,83,112,101,99,117,108,97,114,76,105,103,104,116,105,110,103,32,102,101,83,112,111,116,76,105,103,104,116,32,102,101,84,105,108,101,32,102,101,84,117,114,98,117,108,101,110,99,101,32,102,111,114,101,105,103,110,79,98,106,101,99,116,32,103,108,121,112,104,82,101,102,32,108,105,110,101,97,114,71,114,97,100,105,101,110,116,32,114,97,100,105,97,108,71,114,97,100,105,101,110,116,32,116,101,120,116,80,97,116,104])] fun v0 =>
 .ret .ret [v0]
theorem t64_eq (v900 : AVal) : afun cx 64 [v900] = t64 v900 := by kernel_rfl
def t65 (v900 : AVal) : IT :=
 .pcall 117 [(S [97,108,116,71,108,121,112,104,32,97,108,116,71,108,121,112,104,68,101,102,32,97,108,116,71,108,121,112,104,73,116,101,109,32,97,110,105,109,97,116,101,67,111,108,111,114,32,97,110,105,109,97,116,101,77,111,116,105,111,110,32,97,110,105,109,97,116,101,84,114,97,110,115,102,111,114,109,32,99,108,105,112,80,97,116,104,32,102,101,66,108,101,110,100,32,102,101,67,111,108,111,114,77,97,116,114,105,120,32,102,101,67,111,109,112,111,110,101,110,116,84,114,97,110,115,102,101,114,32,102,101,67,111,109,112,111,115,105,116,101,32,102,101,67,111,110,118,111,108,118,101,77,97,116,114,105,120,32,102,101,68,105,102,102,117,115,101,76,105,103,104,116,105,110,103,32,102,101,68,105,115,112,108,97,99,101,109,101,110,116,77,97,112,32,102,101,68,105,115,116,97,110,116,76,105,103,104,116,32,102,101,68,114,111,112,83,104,97,100,111,119,32,102,101,70,108,111,111,100,32,102,101,70,117,110,99,65,32,102,101,70,117,110,99,66,32,102,101,70,117,110,99,71,32,102,101,70,117,110,99,82,32,102,101,71,97,117,115,115,105,97,110,66,108,117,114,32,102,101,73,109,97,103,101,32,102,101,77,101,114,103,101,32,102,101,77,101,114,103,101,78,111,100,101,32,102,101,77,111,114,112,104,111,108,111,103,121,32,102,101,79,102,102,115,101,116,32,102,101,80,111,105,110,116,76,105,103,104,116,32,102,101,83,112,101,99,117,108,97,114,76,105,103,104,116,105,110,103,32,102,101,83,112,111,116,76,105,103,104,116,32,102,101,84,105,108,101,32,102,101,84,117,114,98,117,108,101,110,99,101,32,102,111,114,101,105,103,110,79,98,106,101,99,116,32,103,108,121,112,104,82,101,102,32,108,105,110,101,97,114,71,114,97,100,105,101,110,116,32,114,97,100,105,97,108,71,114,97,100,105,101,110,116,32,116,101,120,116,80,97,116,104]), v900] fun v0 =>
 .ret .ret [v0]
theorem t65_eq (v900 : AVal) : afun cx 65 [v900] = t65 v900 := by kernel_rfl
def t66 (v900 v901 v902 : AVal) : IT :=
 .cells 4 v902 fun c0 =>
 .call 40 [v900, v901] fun v1 =>
 .op (.int .lss) [v1, (I 1)] fun v2 =>
 .cnd v2 (
  .frzAt 0 v900 (
  .ret .ret [ff])) (
  .op .nonnil [v900] fun v3 =>
  .op (.faddr 0) [v3] fun v4 =>
  .load none v4 fun v5 =>
  .call 118 [v5] fun v6 =>
  .op .nonnil [v900] fun v7 =>
  .op (.faddr 0) [v7] fun v8 =>
  .store 1 v8 v6 (
  .op .nonnil [v900] fun v9 =>
  .op (.faddr 0) [v9] fun v10 =>
  .load none v10 fun v11 =>
  .op (.eaddr 4) [v11, v1] fun v12 =>
  .store 4 v12 (.agg [(g c0 0), (g c0 1), (g c0 2), (g c0 3)]) (
  .frzAt 0 v900 (
  .ret .ret [tt]))))
theorem t66_eq (v900 v901 v902 : AVal) : afun cx 66 [v900, v901, v902] = t66 v900 v901 v902 := by kernel_rfl
def t67 (v900 v901 : AVal) : IT :=
 .op (.len false) [v900] fun v0 =>
 .op (.len false) [v901] fun v1 =>
 .op (.int .neq) [v0, v1] fun v2 =>
 .cnd v2 (
  .ret .ret [ff]) (
  .loop 4 [ff, (I 0)] (fun c3 =>
   .op (.len false) [v900] fun v4 =>
   .op (.int .lss) [(g c3 1), v4] fun v5 =>
   .cnd v5 (
    .op (.eaddr 4) [v900, (g c3 1)] fun v6 =>
    .load (some 4) v6 fun v7 =>
    .op (.eaddr 4) [v901, (g c3 1)] fun v8 =>
    .load (some 4) v8 fun v9 =>
    .op (.geq true [.i, .i, .s, .b]) [v7, v9] fun v10 =>
    .cnd v10 (
     .ret .ret [ff, (g c3 1)]) (
     .op (.int .add) [(g c3 1), (I 1)] fun v11 =>
     .ret .normal [(g c3 0), v11])) (
    .ret (.exit 0) [(g c3 0), (g c3 1)])) (
  fun x c12 => match x with
  | .normal =>
   .ret .ret [tt]
  | .exit i =>
   if i = 0 then
    .ret .ret [tt]
   else
   .fail
  | .ret =>
   .ret .ret [(g c12 0)]))
theorem t67_eq (v900 v901 : AVal) : afun cx 67 [v900, v901] = t67 v900 v901 := by kernel_rfl
def t68 (v900 : AVal) : IT :=
 .loop 3 [.slnil, (I 0)] (fun c0 =>
  .op (.len false) [v900] fun v1 =>
  .op (.int .lss) [(g c0 1), v1] fun v2 =>
  .cnd v2 (
   .op (.eaddr 4) [v900, (g c0 1)] fun v3 =>
   .load (some 4) v3 fun v4 =>
   .call 32 [v4] fun v5 =>
   .op (.mksl 4) [v5] fun v6 =>
   .op (.append 4 40) [(g c0 0), v6] fun v7 =>
   .op (.int .add) [(g c0 1), (I 1)] fun v8 =>
   .ret .normal [v7, v8]) (
   .ret (.exit 0) [(g c0 0), (g c0 1)])) (
 fun x c9 => match x with
 | .normal =>
  .ret .ret [(g c9 0)]
 | .exit i =>
  if i = 0 then
   .ret .ret [(g c9 0)]
  else
  .fail
 | .ret =>
  .ret .ret [.slnil])
theorem t68_eq (v900 : AVal) : afun cx 68 [v900] = t68 v900 := by kernel_rfl
def t69 (v900 v901 v902 : AVal) : IT :=
 .cells 4 v901 fun c0 =>
 .op (.peq true) [v900, (.ptr none)] fun v1 =>
 .cnd v1 (
  .op .nonnil [v900] fun v2 =>
  .op (.faddr 0) [v2] fun v3 =>
  .load none v3 fun v4 =>
  .op (.minmax true) [v902, (I 1)] fun v5 =>
  .op .nonnil [v900] fun v6 =>
  .op (.faddr 0) [v6] fun v7 =>
  .load none v7 fun v8 =>
  .op (.len false) [v8] fun v9 =>
  .op (.minmax false) [v5, v9] fun v10 =>
  .call 119 [v4, (.agg [(g c0 0), (g c0 1), (g c0 2), (g c0 3)]), v10] fun v11 =>
  .op .nonnil [v900] fun v12 =>
  .op (.faddr 0) [v12] fun v13 =>
  .store 1 v13 v11 (
  .ret .ret [(.tuple [])])) (
  .ret .ret [(.tuple [])])
theorem t69_eq (v900 v901 v902 : AVal) : afun cx 69 [v900, v901, v902] = t69 v900 v901 v902 := by kernel_rfl
def t70 (v900 v901 : AVal) : IT :=
 .call 40 [v900, v901] fun v0 =>
 .op (.int .lss) [v0, (I 1)] fun v1 =>
 .cnd v1 (
  .ret .ret [ff]) (
  .op .nonnil [v900] fun v2 =>
  .op (.faddr 0) [v2] fun v3 =>
  .load none v3 fun v4 =>
  .call 120 [v4, v0] fun v5 =>
  .op .nonnil [v900] fun v6 =>
  .op (.faddr 0) [v6] fun v7 =>
  .store 1 v7 v5 (
  .ret .ret [tt]))
theorem t70_eq (v900 v901 : AVal) : afun cx 70 [v900, v901] = t70 v900 v901 := by kernel_rfl
def t71 (v900 v901 : AVal) : IT :=
 .cells 3 v901 fun c0 =>
 .op (.peq false) [v900, (.ptr none)] fun v1 =>
 .cnd v1 (
  .ret .ret [(.tuple [])]) (
  .op (.int .neq) [(g c0 0), (I 0)] fun v2 =>
  .join 100011 (
   .cnd v2 (
    .op .nonnil [v900] fun v3 =>
    .op (.faddr 0) [v3] fun v4 =>
    .load none v4 fun v5 =>
    .op (.len false) [v5] fun v6 =>
    .op (.int .sub) [v6, (I 1)] fun v7 =>
    .loop 5 [(I 0), (I 0), v7] (fun c8 =>
     .call 121 [v900] fun v9 =>
     .op (.int .geq) [(g c8 2), v9] fun v10 =>
     .cnd v10 (
      .op .nonnil [v900] fun v11 =>
      .op (.faddr 0) [v11] fun v12 =>
      .load none v12 fun v13 =>
      .op (.eaddr 3) [v13, (g c8 2)] fun v14 =>
      .load (some 3) v14 fun v15 =>
      .call 122 [v15, (.agg [(g c0 0), (g c0 1), (g c0 2)])] fun v16 =>
      .join 100032 (
       .cnd v16 (
        .op (.int .add) [(g c8 1), (I 1)] fun v17 =>
        .ret .normal [(g c8 2), v17]) (
        .ret .normal [(g c8 0), (g c8 1)])) (
      fun x c18 => match x with
      | .normal =>
       .op (.int .sub) [(g c8 2), (I 1)] fun v19 =>
       .ret .normal [(g c18 0), (g c18 1), v19]
      | .exit i =>
       if i = 1 then
        .op (.int .sub) [(g c8 2), (I 1)] fun v20 =>
        .ret .normal [(g c18 0), (g c18 1), v20]
       else
       .ret (.exit i) [(g c18 0), (g c18 1), (g c8 2)]
      | .ret =>
       .ret .ret [(g c18 0), (g c18 1), (g c8 2)])) (
      .ret (.exit 0) [(g c8 0), (g c8 1), (g c8 2)])) (
    fun x c21 => match x with
    | .normal =>
     .op (.int .geq) [(g c21 1), (I 3)] fun v22 =>
     .join 100037 (
      .cnd v22 (
       .op .nonnil [v900] fun v23 =>
       .op (.faddr 0) [v23] fun v24 =>
       .load none v24 fun v25 =>
       .call 123 [v25, (g c21 0)] fun v26 =>
       .op .nonnil [v900] fun v27 =>
       .op (.faddr 0) [v27] fun v28 =>
       .store 1 v28 v26 (
       .ret .normal [])) (
       .ret .normal [])) (
     fun x c29 => .ret x [])
    | .exit i =>
     if i = 0 then
      .op (.int .geq) [(g c21 1), (I 3)] fun v30 =>
      .join 100037 (
       .cnd v30 (
        .op .nonnil [v900] fun v31 =>
        .op (.faddr 0) [v31] fun v32 =>
        .load none v32 fun v33 =>
        .call 123 [v33, (g c21 0)] fun v34 =>
        .op .nonnil [v900] fun v35 =>
        .op (.faddr 0) [v35] fun v36 =>
        .store 1 v36 v34 (
        .ret .normal [])) (
        .ret .normal [])) (
      fun x c37 => .ret x [])
     else
     .ret (.exit i) []
    | .ret =>
     .ret .ret [])) (
    .ret .normal [])) (
  fun x c38 => match x with
  | .normal =>
   .op .nonnil [v900] fun v39 =>
   .op (.faddr 0) [v39] fun v40 =>
   .load none v40 fun v41 =>
   .op .nonnil [v900] fun v42 =>
   .op (.faddr 0) [v42] fun v43 =>
   .load none v43 fun v44 =>
   .op (.len false) [v44] fun v45 =>
   .call 125 [(.agg [(g c0 0), (g c0 1), (g c0 2)])] fun v46 =>
   .load none v43 fun v47 =>
   .same v44 v47 (
   .load none v40 fun v48 =>
   .same v41 v48 (
   .call 124 [v41, v46, v45] fun v49 =>
   .op .nonnil [v900] fun v50 =>
   .op (.faddr 0) [v50] fun v51 =>
   .store 1 v51 v49 (
   .ret .ret [(.tuple [])])))
  | .exit i =>
   .fail
  | .ret =>
   .ret .ret [(.tuple [])]))
theorem t71_eq (v900 v901 : AVal) : afun cx 71 [v900, v901] = t71 v900 v901 := by kernel_rfl
end Go.Am
