/-
  The trees of the functions, written by a program; each is held against the code by the kernel. No law is claimed here.
-/
import Derived.Test.YtejpjabbdkpmiaaDoorCtx
import Derived.KernelRfl
namespace Go.Am
open Go
set_option linter.unusedVariables false
def t72 (v900 v901 v902 : AVal) : IT :=
 .cells 3 v901 fun c0 =>
 .op (.peq true) [v900, (.ptr none)] fun v1 =>
 .cnd v1 (
  .op .nonnil [v900] fun v2 =>
  .op (.faddr 0) [v2] fun v3 =>
  .load none v3 fun v4 =>
  .op (.minmax true) [v902, (I 0)] fun v5 =>
  .op .nonnil [v900] fun v6 =>
  .op (.faddr 0) [v6] fun v7 =>
  .load none v7 fun v8 =>
  .op (.len false) [v8] fun v9 =>
  .op (.minmax false) [v5, v9] fun v10 =>
  .call 125 [(.agg [(g c0 0), (g c0 1), (g c0 2)])] fun v11 =>
  .load none v7 fun v12 =>
  .same v8 v12 (
  .load none v3 fun v13 =>
  .same v4 v13 (
  .call 124 [v4, v11, v10] fun v14 =>
  .op .nonnil [v900] fun v15 =>
  .op (.faddr 0) [v15] fun v16 =>
  .store 1 v16 v14 (
  .ret .ret [(.tuple [])])))) (
  .ret .ret [(.tuple [])])
theorem t72_eq (v900 v901 v902 : AVal) : afun cx 72 [v900, v901, v902] = t72 v900 v901 v902 := by kernel_rfl
def t73 (v900 v901 v902 : AVal) : IT :=
 .cells 3 v902 fun c0 =>
 .call 82 [v900, v901] fun v1 =>
 .op (.int .lss) [v1, (I 0)] fun v2 =>
 .cnd v2 (
  .frzAt 0 v900 (
  .ret .ret [ff])) (
  .op .nonnil [v900] fun v3 =>
  .op (.faddr 0) [v3] fun v4 =>
  .load none v4 fun v5 =>
  .call 126 [v5] fun v6 =>
  .op .nonnil [v900] fun v7 =>
  .op (.faddr 0) [v7] fun v8 =>
  .store 1 v8 v6 (
  .op .nonnil [v900] fun v9 =>
  .op (.faddr 0) [v9] fun v10 =>
  .load none v10 fun v11 =>
  .call 125 [(.agg [(g c0 0), (g c0 1), (g c0 2)])] fun v12 =>
  .load none v10 fun v13 =>
  .same v11 v13 (
  .op (.eaddr 3) [v11, v1] fun v14 =>
  .store 3 v14 v12 (
  .frzAt 0 v900 (
  .ret .ret [tt])))))
theorem t73_eq (v900 v901 v902 : AVal) : afun cx 73 [v900, v901, v902] = t73 v900 v901 v902 := by kernel_rfl
def t74 (v900 v901 : AVal) : IT :=
 .op (.len false) [v900] fun v0 =>
 .op (.len false) [v901] fun v1 =>
 .op (.int .neq) [v0, v1] fun v2 =>
 .cnd v2 (
  .ret .ret [ff]) (
  .loop 4 [ff, (I 0)] (fun c3 =>
   .op (.len false) [v900] fun v4 =>
   .op (.int .lss) [(g c3 1), v4] fun v5 =>
   .cnd v5 (
    .op (.eaddr 3) [v900, (g c3 1)] fun v6 =>
    .op (.faddr 0) [v6] fun v7 =>
    .load none v7 fun v8 =>
    .op (.eaddr 3) [v901, (g c3 1)] fun v9 =>
    .op (.faddr 0) [v9] fun v10 =>
    .load none v10 fun v11 =>
    .op (.int .neq) [v8, v11] fun v12 =>
    .cnd v12 (
     .ret .ret [ff, (g c3 1)]) (
     .op (.eaddr 3) [v900, (g c3 1)] fun v13 =>
     .op (.faddr 1) [v13] fun v14 =>
     .load none v14 fun v15 =>
     .op (.eaddr 3) [v901, (g c3 1)] fun v16 =>
     .op (.faddr 1) [v16] fun v17 =>
     .load none v17 fun v18 =>
     .op (.str .neq) [v15, v18] fun v19 =>
     .cnd v19 (
      .ret .ret [ff, (g c3 1)]) (
      .op (.eaddr 3) [v900, (g c3 1)] fun v20 =>
      .op (.faddr 2) [v20] fun v21 =>
      .load none v21 fun v22 =>
      .op (.len false) [v22] fun v23 =>
      .op (.eaddr 3) [v901, (g c3 1)] fun v24 =>
      .op (.faddr 2) [v24] fun v25 =>
      .load none v25 fun v26 =>
      .op (.len false) [v26] fun v27 =>
      .op (.int .neq) [v23, v27] fun v28 =>
      .cnd v28 (
       .ret .ret [ff, (g c3 1)]) (
       .loop 9 [(g c3 0), (I 0)] (fun c29 =>
        .op (.eaddr 3) [v900, (g c3 1)] fun v30 =>
        .op (.faddr 2) [v30] fun v31 =>
        .load none v31 fun v32 =>
        .op (.len false) [v32] fun v33 =>
        .op (.int .lss) [(g c29 1), v33] fun v34 =>
        .cnd v34 (
         .op (.eaddr 3) [v900, (g c3 1)] fun v35 =>
         .op (.faddr 2) [v35] fun v36 =>
         .load none v36 fun v37 =>
         .op (.eaddr 3) [v37, (g c29 1)] fun v38 =>
         .load (some 3) v38 fun v39 =>
         .op (.eaddr 3) [v901, (g c3 1)] fun v40 =>
         .op (.faddr 2) [v40] fun v41 =>
         .load none v41 fun v42 =>
         .op (.eaddr 3) [v42, (g c29 1)] fun v43 =>
         .load (some 3) v43 fun v44 =>
         .op (.geq true [.i, .s, .s]) [v39, v44] fun v45 =>
         .cnd v45 (
          .ret .ret [ff, (g c29 1)]) (
          .op (.int .add) [(g c29 1), (I 1)] fun v46 =>
          .ret .normal [(g c29 0), v46])) (
         .ret (.exit 2) [(g c29 0), (g c29 1)])) (
       fun x c47 => match x with
       | .normal =>
        .op (.int .add) [(g c3 1), (I 1)] fun v48 =>
        .ret .normal [(g c47 0), v48]
       | .exit i =>
        if i = 2 then
         .op (.int .add) [(g c3 1), (I 1)] fun v49 =>
         .ret .normal [(g c47 0), v49]
        else
        if i = 1 then
         .op (.int .add) [(g c3 1), (I 1)] fun v50 =>
         .ret .normal [(g c47 0), v50]
        else
        .ret (.exit i) [(g c47 0), (g c3 1)]
       | .ret =>
        .ret .ret [(g c47 0), (g c3 1)]))))) (
    .ret (.exit 0) [(g c3 0), (g c3 1)])) (
  fun x c51 => match x with
  | .normal =>
   .ret .ret [tt]
  | .exit i =>
   if i = 0 then
    .ret .ret [tt]
   else
   .fail
  | .ret =>
   .ret .ret [(g c51 0)]))
theorem t74_eq (v900 v901 : AVal) : afun cx 74 [v900, v901] = t74 v900 v901 := by kernel_rfl
def t75 (v900 : AVal) : IT :=
 .cells 12 v900 fun c0 =>
 .op (.int .neq) [(g c0 0), (I 1)] fun v1 =>
 .cnd v1 (
  .ret .ret [ff]) (
  .cnd (g c0 7) (
   .ret .ret [tt]) (
   .op (.un .not) [(g c0 2)] fun v2 =>
   .cnd v2 (
    .ret .ret [tt]) (
    .op (.str .neq) [(g c0 1), (S [104,116,109,108])] fun v3 =>
    .cnd v3 (
     .ret .ret [tt]) (
     .op (.un .not) [(g c0 4)] fun v4 =>
     .cnd v4 (
      .ret .ret [ff]) (
      .op (.mksl 1) [(S [45,47,47,87,51,79,47,47,68,84,68,32,87,51,32,72,84,77,76,32,83,116,114,105,99,116,32,51,46,48,47,47,69,78,47,47]), (S [45,47,87,51,67,47,68,84,68,32,72,84,77,76,32,52,46,48,32,84,114,97,110,115,105,116,105,111,110,97,108,47,69,78]), (S [72,84,77,76])] fun v5 =>
      .op (.len false) [v5] fun v6 =>
      .loop 8 [ff, (I 0)] (fun c7 =>
       .op (.int .lss) [(g c7 1), v6] fun v8 =>
       .cnd v8 (
        .op (.eaddr 1) [v5, (g c7 1)] fun v9 =>
        .load none v9 fun v10 =>
        .pcall 112 [(g c0 3), v10] fun v11 =>
        .cnd v11 (
         .ret .ret [tt, (g c7 1)]) (
         .op (.int .add) [(g c7 1), (I 1)] fun v12 =>
         .ret .normal [(g c7 0), v12])) (
        .ret (.exit 0) [(g c7 0), (g c7 1)])) (
      fun x c13 => match x with
      | .normal =>
       .op (.faddr 6) [(.rptr [(g c0 0), (g c0 1), (g c0 2), (g c0 3), (g c0 4), (g c0 5), (g c0 6), (g c0 7), (g c0 8), (g c0 9), (g c0 10), (g c0 11)])] fun v14 =>
       .load none v14 fun v15 =>
       .op (.un .not) [v15] fun v16 =>
       .cnd v16 (
        .callv (.func (.func 127) [] [(.rptr [(g c0 0), (g c0 1), (g c0 2), (g c0 3), (g c0 4), (g c0 5), (g c0 6), (g c0 7), (g c0 8), (g c0 9), (g c0 10), (g c0 11)])]) [(S [45,47,47,87,51,67,47,47,68,84,68,32,72,84,77,76,32,52,46,48,49,32,70,114,97,109,101,115,101,116,47,47])] fun v17 =>
        .cnd v17 (
         .ret .ret [tt]) (
         .callv (.func (.func 127) [] [(.rptr [(g c0 0), (g c0 1), (g c0 2), (g c0 3), (g c0 4), (g c0 5), (g c0 6), (g c0 7), (g c0 8), (g c0 9), (g c0 10), (g c0 11)])]) [(S [45,47,47,87,51,67,47,47,68,84,68,32,72,84,77,76,32,52,46,48,49,32,84,114,97,110,115,105,116,105,111,110,97,108,47,47])] fun v18 =>
         .cnd v18 (
          .ret .ret [tt]) (
          .op (.mksl 1) [(S [45,47,47,73,69,84,70,47,47,68,84,68,32,72,84,77,76,32,50,46,48]), (S [45,47,47,73,69,84,70,47,47,68,84,68,32,72,84,77,76,32,50,46,49,69,47,47]), (S [45,47,47,73,69,84,70,47,47,68,84,68,32,72,84,77,76,32,51]), (S [45,47,47,73,69,84,70,47,47,68,84,68,32,72,84,77,76,32,76,101,118,101,108,32]), (S [45,47,47,73,69,84,70,47,47,68,84,68,32,72,84,77,76,32,83,116,114,105,99,116]), (S [45,47,47,73,69,84,70,47,47,68,84,68,32,72,84,77,76,47,47]), (S [45,47,47,87,51,67,47,47,68,84,68,32,72,84,77,76,32,51,32,49,57,57,53,45,48,51,45,50,52,47,47]), (S [45,47,47,87,51,67,47,47,68,84,68,32,72,84,77,76,32,51,46,50]), (S [45,47,47,87,51,67,47,47,68,84,68,32,72,84,77,76,32,52,46,48,32,70,114,97,109,101,115,101,116,47,47]), (S [45,47,47,87,51,67,47,47,68,84,68,32,72,84,77,76,32,52,46,48,32,84,114,97,110,115,105,116,105,111,110,97,108,47,47]), (S [45,47,47,87,51,67,47,47,68,84,68,32,72,84,77,76,32,69,120,112,101,114,105,109,101,110,116,97,108,32,49,57,57,54,48,55,49,50,47,47]), (S [45,47,47,87,51,67,47,47,68,84,68,32,72,84,77,76,32,69,120,112,101,114,105,109,101,110,116,97,108,32,57,55,48,52,50,49,47,47]), (S [45,47,47,87,51,67,47,47,68,84,68,32,87,51,32,72,84,77,76,47,47]), (S [45,47,47,87,51,79,47,47,68,84,68,32,87,51,32,72,84,77,76,32,51,46,48,47,47])] fun v19 =>
          .call 128 [v19, (.func (.func 127) [] [(.rptr [(g c0 0), (g c0 1), (g c0 2), (g c0 3), (g c0 4), (g c0 5), (g c0 6), (g c0 7), (g c0 8), (g c0 9), (g c0 10), (g c0 11)])])] fun v20 =>
          .ret .ret [v20]))) (
        .op (.mksl 1) [(S [45,47,47,73,69,84,70,47,47,68,84,68,32,72,84,77,76,32,50,46,48]), (S [45,47,47,73,69,84,70,47,47,68,84,68,32,72,84,77,76,32,50,46,49,69,47,47]), (S [45,47,47,73,69,84,70,47,47,68,84,68,32,72,84,77,76,32,51]), (S [45,47,47,73,69,84,70,47,47,68,84,68,32,72,84,77,76,32,76,101,118,101,108,32]), (S [45,47,47,73,69,84,70,47,47,68,84,68,32,72,84,77,76,32,83,116,114,105,99,116]), (S [45,47,47,73,69,84,70,47,47,68,84,68,32,72,84,77,76,47,47]), (S [45,47,47,87,51,67,47,47,68,84,68,32,72,84,77,76,32,51,32,49,57,57,53,45,48,51,45,50,52,47,47]), (S [45,47,47,87,51,67,47,47,68,84,68,32,72,84,77,76,32,51,46,50]), (S [45,47,47,87,51,67,47,47,68,84,68,32,72,84,77,76,32,52,46,48,32,70,114,97,109,101,115,101,116,47,47]), (S [45,47,47,87,51,67,47,47,68,84,68,32,72,84,77,76,32,52,46,48,32,84,114,97,110,115,105,116,105,111,110,97,108,47,47]), (S [45,47,47,87,51,67,47,47,68,84,68,32,72,84,77,76,32,69,120,112,101,114,105,109,101,110,116,97,108,32,49,57,57,54,48,55,49,50,47,47]), (S [45,47,47,87,51,67,47,47,68,84,68,32,72,84,77,76,32,69,120,112,101,114,105,109,101,110,116,97,108,32,57,55,48,52,50,49,47,47]), (S [45,47,47,87,51,67,47,47,68,84,68,32,87,51,32,72,84,77,76,47,47]), (S [45,47,47,87,51,79,47,47,68,84,68,32,87,51,32,72,84,77,76,32,51,46,48,47,47])] fun v21 =>
        .call 128 [v21, (.func (.func 127) [] [(.rptr [(g c0 0), (g c0 1), (g c0 2), (g c0 3), (g c0 4), (g c0 5), (g c0 6), (g c0 7), (g c0 8), (g c0 9), (g c0 10), (g c0 11)])])] fun v22 =>
        .ret .ret [v22])
      | .exit i =>
       if i = 0 then
        .op (.faddr 6) [(.rptr [(g c0 0), (g c0 1), (g c0 2), (g c0 3), (g c0 4), (g c0 5), (g c0 6), (g c0 7), (g c0 8), (g c0 9), (g c0 10), (g c0 11)])] fun v23 =>
        .load none v23 fun v24 =>
        .op (.un .not) [v24] fun v25 =>
        .cnd v25 (
         .callv (.func (.func 127) [] [(.rptr [(g c0 0), (g c0 1), (g c0 2), (g c0 3), (g c0 4), (g c0 5), (g c0 6), (g c0 7), (g c0 8), (g c0 9), (g c0 10), (g c0 11)])]) [(S [45,47,47,87,51,67,47,47,68,84,68,32,72,84,77,76,32,52,46,48,49,32,70,114,97,109,101,115,101,116,47,47])] fun v26 =>
         .cnd v26 (
          .ret .ret [tt]) (
          .callv (.func (.func 127) [] [(.rptr [(g c0 0), (g c0 1), (g c0 2), (g c0 3), (g c0 4), (g c0 5), (g c0 6), (g c0 7), (g c0 8), (g c0 9), (g c0 10), (g c0 11)])]) [(S [45,47,47,87,51,67,47,47,68,84,68,32,72,84,77,76,32,52,46,48,49,32,84,114,97,110,115,105,116,105,111,110,97,108,47,47])] fun v27 =>
          .cnd v27 (
           .ret .ret [tt]) (
           .op (.mksl 1) [(S [45,47,47,73,69,84,70,47,47,68,84,68,32,72,84,77,76,32,50,46,48]), (S [45,47,47,73,69,84,70,47,47,68,84,68,32,72,84,77,76,32,50,46,49,69,47,47]), (S [45,47,47,73,69,84,70,47,47,68,84,68,32,72,84,77,76,32,51]), (S [45,47,47,73,69,84,70,47,47,68,84,68,32,72,84,77,76,32,76,101,118,101,108,32]), (S [45,47,47,73,69,84,70,47,47,68,84,68,32,72,84,77,76,32,83,116,114,105,99,116]), (S [45,47,47,73,69,84,70,47,47,68,84,68,32,72,84,77,76,47,47]), (S [45,47,47,87,51,67,47,47,68,84,68,32,72,84,77,76,32,51,32,49,57,57,53,45,48,51,45,50,52,47,47]), (S [45,47,47,87,51,67,47,47,68,84,68,32,72,84,77,76,32,51,46,50]), (S [45,47,47,87,51,67,47,47,68,84,68,32,72,84,77,76,32,52,46,48,32,70,114,97,109,101,115,101,116,47,47]), (S [45,47,47,87,51,67,47,47,68,84,68,32,72,84,77,76,32,52,46,48,32,84,114,97,110,115,105,116,105,111,110,97,108,47,47]), (S [45,47,47,87,51,67,47,47,68,84,68,32,72,84,77,76,32,69,120,112,101,114,105,109,101,110,116,97,108,32,49,57,57,54,48,55,49,50,47,47]), (S [45,47,47,87,51,67,47,47,68,84,68,32,72,84,77,76,32,69,120,112,101,114,105,109,101,110,116,97,108,32,57,55,48,52,50,49,47,47]), (S [45,47,47,87,51,67,47,47,68,84,68,32,87,51,32,72,84,77,76,47,47]), (S [45,47,47,87,51,79,47,47,68,84,68,32,87,51,32,72,84,77,76,32,51,46,48,47,47])] fun v28 =>
           .call 128 [v28, (.func (.func 127) [] [(.rptr [(g c0 0), (g c0 1), (g c0 2), (g c0 3), (g c0 4), (g c0 5), (g c0 6), (g c0 7), (g c0 8), (g c0 9), (g c0 10), (g c0 11)])])] fun v29 =>
           .ret .ret [v29]))) (
         .op (.mksl 1) [(S [45,47,47,73,69,84,70,47,47,68,84,68,32,72,84,77,76,32,50,46,48]), (S [45,47,47,73,69,84,70,47,47,68,84,68,32,72,84,77,76,32,50,46,49,69,47,47]), (S [45,47,47,73,69,84,70,47,47,68,84,68,32,72,84,77,76,32,51]), (S [45,47,47,73,69,84,70,47,47,68,84,68,32,72,84,77,76,32,76,101,118,101,108,32]), (S [45,47,47,73,69,84,70,47,47,68,84,68,32,72,84,77,76,32,83,116,114,105,99,116]), (S [45,47,47,73,69,84,70,47,47,68,84,68,32,72,84,77,76,47,47]), (S [45,47,47,87,51,67,47,47,68,84,68,32,72,84,77,76,32,51,32,49,57,57,53,45,48,51,45,50,52,47,47]), (S [45,47,47,87,51,67,47,47,68,84,68,32,72,84,77,76,32,51,46,50]), (S [45,47,47,87,51,67,47,47,68,84,68,32,72,84,77,76,32,52,46,48,32,70,114,97,109,101,115,101,116,47,47]), (S [45,47,47,87,51,67,47,47,68,84,68,32,72,84,77,76,32,52,46,48,32,84,114,97,110,115,105,116,105,111,110,97,108,47,47]), (S [45,47,47,87,51,67,47,47,68,84,68,32,72,84,77,76,32,69,120,112,101,114,105,109,101,110,116,97,108,32,49,57,57,54,48,55,49,50,47,47]), (S [45,47,47,87,51,67,47,47,68,84,68,32,72,84,77,76,32,69,120,112,101,114,105,109,101,110,116,97,108,32,57,55,48,52,50,49,47,47]), (S [45,47,47,87,51,67,47,47,68,84,68,32,87,51,32,72,84,77,76,47,47]), (S [45,47,47,87,51,79,47,47,68,84,68,32,87,51,32,72,84,77,76,32,51,46,48,47,47])] fun v30 =>
         .call 128 [v30, (.func (.func 127) [] [(.rptr [(g c0 0), (g c0 1), (g c0 2), (g c0 3), (g c0 4), (g c0 5), (g c0 6), (g c0 7), (g c0 8), (g c0 9), (g c0 10), (g c0 11)])])] fun v31 =>
         .ret .ret [v31])
       else
       .fail
      | .ret =>
       .ret .ret [(g c13 0)]))))))
theorem t75_eq (v900 : AVal) : afun cx 75 [v900] = t75 v900 := by kernel_rfl
def t76 (v900 : AVal) : IT :=
 .cells 12 v900 fun c0 =>
 .op (.int .neq) [(g c0 0), (I 1)] fun v1 =>
 .cnd v1 (
  .ret .ret [ff]) (
  .cnd (g c0 7) (
   .ret .ret [tt]) (
   .op (.un .not) [(g c0 2)] fun v2 =>
   .cnd v2 (
    .ret .ret [tt]) (
    .op (.str .neq) [(g c0 1), (S [104,116,109,108])] fun v3 =>
    .cnd v3 (
     .ret .ret [tt]) (
     .op (.un .not) [(g c0 4)] fun v4 =>
     .cnd v4 (
      .ret .ret [ff]) (
      .pcall 129 [(g c0 3), (S [45,47,47,87,51,79,47,47,68,84,68,32,87,51,32,72,84,77,76,32,83,116,114,105,99,116,32,51,46,48,47,47,69,78,47,47])] fun v5 =>
      .cnd v5 (
       .ret .ret [tt]) (
       .pcall 129 [(g c0 3), (S [45,47,87,51,67,47,68,84,68,32,72,84,77,76,32,52,46,48,32,84,114,97,110,115,105,116,105,111,110,97,108,47,69,78])] fun v6 =>
       .cnd v6 (
        .ret .ret [tt]) (
        .pcall 129 [(g c0 3), (S [72,84,77,76])] fun v7 =>
        .cnd v7 (
         .ret .ret [tt]) (
         .op (.mksl 1) [(S [45,47,47,73,69,84,70,47,47,68,84,68,32,72,84,77,76,32,50,46,48]), (S [45,47,47,73,69,84,70,47,47,68,84,68,32,72,84,77,76,32,50,46,49,69,47,47]), (S [45,47,47,73,69,84,70,47,47,68,84,68,32,72,84,77,76,32,51]), (S [45,47,47,73,69,84,70,47,47,68,84,68,32,72,84,77,76,32,76,101,118,101,108,32]), (S [45,47,47,73,69,84,70,47,47,68,84,68,32,72,84,77,76,32,83,116,114,105,99,116]), (S [45,47,47,73,69,84,70,47,47,68,84,68,32,72,84,77,76,47,47]), (S [45,47,47,87,51,67,47,47,68,84,68,32,72,84,77,76,32,51,32,49,57,57,53,45,48,51,45,50,52,47,47]), (S [45,47,47,87,51,67,47,47,68,84,68,32,72,84,77,76,32,51,46,50]), (S [45,47,47,87,51,67,47,47,68,84,68,32,72,84,77,76,32,52,46,48,32,70,114,97,109,101,115,101,116,47,47]), (S [45,47,47,87,51,67,47,47,68,84,68,32,72,84,77,76,32,52,46,48,32,84,114,97,110,115,105,116,105,111,110,97,108,47,47]), (S [45,47,47,87,51,67,47,47,68,84,68,32,72,84,77,76,32,69,120,112,101,114,105,109,101,110,116,97,108,32,49,57,57,54,48,55,49,50,47,47]), (S [45,47,47,87,51,67,47,47,68,84,68,32,72,84,77,76,32,69,120,112,101,114,105,109,101,110,116,97,108,32,57,55,48,52,50,49,47,47]), (S [45,47,47,87,51,67,47,47,68,84,68,32,87,51,32,72,84,77,76,47,47]), (S [45,47,47,87,51,79,47,47,68,84,68,32,87,51,32,72,84,77,76,32,51,46,48,47,47])] fun v8 =>
         .call 130 [(g c0 3), v8] fun v9 =>
         .cnd v9 (
          .ret .ret [tt]) (
          .op (.un .not) [(g c0 6)] fun v10 =>
          .cnd v10 (
           .op (.mksl 1) [(S [45,47,47,87,51,67,47,47,68,84,68,32,72,84,77,76,32,52,46,48,49,32,70,114,97,109,101,115,101,116,47,47]), (S [45,47,47,87,51,67,47,47,68,84,68,32,72,84,77,76,32,52,46,48,49,32,84,114,97,110,115,105,116,105,111,110,97,108,47,47])] fun v11 =>
           .call 130 [(g c0 3), v11] fun v12 =>
           .ret .ret [v12]) (
           .ret .ret [ff]))))))))))
theorem t76_eq (v900 : AVal) : afun cx 76 [v900] = t76 v900 := by kernel_rfl
def t77 (v900 : AVal) : IT :=
 .loop 2 [ff, (I 0)] (fun c0 =>
  .op (.len false) [v900] fun v1 =>
  .op (.int .lss) [(g c0 1), v1] fun v2 =>
  .cnd v2 (
   .op (.int .leq) [(g c0 1), (I 80)] fun v3 =>
   .cnd v3 (
    .op (.eaddr 6) [v900, (g c0 1)] fun v4 =>
    .op (.faddr 3) [v4] fun v5 =>
    .load none v5 fun v6 =>
    .op (.len true) [v6] fun v7 =>
    .op (.int .gtr) [v7, (I 60)] fun v8 =>
    .cnd v8 (
     .ret .ret [ff, (g c0 1)]) (
     .op (.eaddr 6) [v900, (g c0 1)] fun v9 =>
     .op (.faddr 4) [v9] fun v10 =>
     .load none v10 fun v11 =>
     .call 41 [v11] fun v12 =>
     .op (.un .not) [v12] fun v13 =>
     .cnd v13 (
      .ret .ret [ff, (g c0 1)]) (
      .op (.int .add) [(g c0 1), (I 1)] fun v14 =>
      .ret .normal [(g c0 0), v14]))) (
    .ret (.exit 0) [(g c0 0), (g c0 1)])) (
   .ret (.exit 0) [(g c0 0), (g c0 1)])) (
 fun x c15 => match x with
 | .normal =>
  .op (.len false) [v900] fun v16 =>
  .op (.int .leq) [v16, (I 80)] fun v17 =>
  .ret .ret [v17]
 | .exit i =>
  if i = 0 then
   .op (.len false) [v900] fun v18 =>
   .op (.int .leq) [v18, (I 80)] fun v19 =>
   .ret .ret [v19]
  else
  .fail
 | .ret =>
  .ret .ret [(g c15 0)])
theorem t77_eq (v900 : AVal) : afun cx 77 [v900] = t77 v900 := by kernel_rfl
def t78 (v900 v901 : AVal) : IT :=
 .cells 6 v901 fun c0 =>
 .op (.int .eql) [(g c0 0), (I 1)] fun v1 =>
 .cnd v1 (
  .call 131 [(.agg [(g c0 0), (g c0 1), (g c0 2), (g c0 3), (g c0 4), (g c0 5)]), (g c0 1)] fun v2 =>
  .call 71 [v900, v2] fun v3 =>
  .ret .ret [(I 0)]) (
  .op (.int .eql) [(g c0 0), (I 2)] fun v4 =>
  .cnd v4 (
   .call 94 [v900] fun v5 =>
   .ret .ret [(I 0)]) (
   .op (.int .eql) [(g c0 0), (I 3)] fun v6 =>
   .cnd v6 (
    .call 95 [v900] fun v7 =>
    .ret .ret [v7]) (
    .op (.int .eql) [(g c0 0), (I 4)] fun v8 =>
    .cnd v8 (
     .call 133 [v900, (g c0 1)] fun v9 =>
     .pcall 132 [v9] fun v10 =>
     .ret .ret [v10]) (
     .op (.int .eql) [(g c0 0), (I 5)] fun v11 =>
     .cnd v11 (
      .call 131 [(.agg [(g c0 0), (g c0 1), (g c0 2), (g c0 3), (g c0 4), (g c0 5)]), (g c0 2)] fun v12 =>
      .call 73 [v900, (g c0 1), v12] fun v13 =>
      .pcall 132 [v13] fun v14 =>
      .ret .ret [v14]) (
      .op (.int .eql) [(g c0 0), (I 6)] fun v15 =>
      .cnd v15 (
       .call 131 [(.agg [(g c0 0), (g c0 1), (g c0 2), (g c0 3), (g c0 4), (g c0 5)]), (g c0 1)] fun v16 =>
       .call 72 [v900, v16, (g c0 5)] fun v17 =>
       .ret .ret [(I 0)]) (
       .ret .ret [(I 0)]))))))
theorem t78_eq (v900 v901 : AVal) : afun cx 78 [v900, v901] = t78 v900 v901 := by kernel_rfl
def t79 (v900 v901 : AVal) : IT :=
 .cells 6 v901 fun c0 =>
 .op (.int .eql) [(g c0 0), (I 1)] fun v1 =>
 .cnd v1 (
  .call 131 [(.agg [(g c0 0), (g c0 1), (g c0 2), (g c0 3), (g c0 4), (g c0 5)]), (g c0 1)] fun v2 =>
  .call 134 [v900, v2] fun v3 =>
  .ret .ret [(.tuple [v3, (I 0)])]) (
  .op (.int .eql) [(g c0 0), (I 2)] fun v4 =>
  .cnd v4 (
   .op (.mkagg [(I 0), (S []), .slnil] []) [] fun v5 =>
   .op (.len false) [v900] fun v6 =>
   .call 135 [v900, v5, v6] fun v7 =>
   .ret .ret [(.tuple [v7, (I 0)])]) (
   .op (.int .eql) [(g c0 0), (I 3)] fun v8 =>
   .cnd v8 (
    .call 136 [v900] fun v9 =>
    .op (.len false) [v900] fun v10 =>
    .op (.len false) [v9] fun v11 =>
    .op (.int .sub) [v10, v11] fun v12 =>
    .ret .ret [(.tuple [v9, v12])]) (
    .op (.int .eql) [(g c0 0), (I 4)] fun v13 =>
    .cnd v13 (
     .call 83 [v900, (g c0 1)] fun v14 =>
     .op (.int .lss) [v14, (I 0)] fun v15 =>
     .cnd v15 (
      .ret .ret [(.tuple [v900, (I 0)])]) (
      .call 137 [v900, v14] fun v16 =>
      .ret .ret [(.tuple [v16, (I 1)])])) (
     .op (.int .eql) [(g c0 0), (I 5)] fun v17 =>
     .cnd v17 (
      .call 131 [(.agg [(g c0 0), (g c0 1), (g c0 2), (g c0 3), (g c0 4), (g c0 5)]), (g c0 2)] fun v18 =>
      .call 138 [v900, (g c0 1), v18] fun v19 =>
      .op (.ext 0) [v19] fun v20 =>
      .op (.ext 1) [v19] fun v21 =>
      .pcall 132 [v21] fun v22 =>
      .ret .ret [(.tuple [v20, v22])]) (
      .op (.int .eql) [(g c0 0), (I 6)] fun v23 =>
      .cnd v23 (
       .call 131 [(.agg [(g c0 0), (g c0 1), (g c0 2), (g c0 3), (g c0 4), (g c0 5)]), (g c0 1)] fun v24 =>
       .call 135 [v900, v24, (g c0 5)] fun v25 =>
       .ret .ret [(.tuple [v25, (I 0)])]) (
       .ret .ret [(.tuple [v900, (I 0)])]))))))
theorem t79_eq (v900 v901 : AVal) : afun cx 79 [v900, v901] = t79 v900 v901 := by kernel_rfl
def t80 (v900 v901 : AVal) : IT :=
 .op (.peq false) [v900, (.ptr none)] fun v0 =>
 .cnd v0 (
  .ret .ret [(I (-1))]) (
  .op .nonnil [v900] fun v1 =>
  .op (.faddr 0) [v1] fun v2 =>
  .load none v2 fun v3 =>
  .op (.len false) [v3] fun v4 =>
  .op (.int .sub) [v4, (I 1)] fun v5 =>
  .loop 4 [(I 0), v5] (fun c6 =>
   .op (.int .geq) [(g c6 1), (I 0)] fun v7 =>
   .cnd v7 (
    .op .nonnil [v900] fun v8 =>
    .op (.faddr 0) [v8] fun v9 =>
    .load none v9 fun v10 =>
    .op (.eaddr 3) [v10, (g c6 1)] fun v11 =>
    .op (.faddr 0) [v11] fun v12 =>
    .load none v12 fun v13 =>
    .op (.int .neq) [v13, (I 0)] fun v14 =>
    .cnd v14 (
     .op .nonnil [v900] fun v15 =>
     .op (.faddr 0) [v15] fun v16 =>
     .load none v16 fun v17 =>
     .op (.eaddr 3) [v17, (g c6 1)] fun v18 =>
     .op (.faddr 1) [v18] fun v19 =>
     .load none v19 fun v20 =>
     .op (.str .eql) [v20, v901] fun v21 =>
     .cnd v21 (
      .ret .ret [(g c6 1), (g c6 1)]) (
      .op (.int .sub) [(g c6 1), (I 1)] fun v22 =>
      .ret .normal [(g c6 0), v22])) (
     .ret (.exit 0) [(g c6 0), (g c6 1)])) (
    .ret (.exit 0) [(g c6 0), (g c6 1)])) (
  fun x c23 => match x with
  | .normal =>
   .ret .ret [(I (-1))]
  | .exit i =>
   if i = 0 then
    .ret .ret [(I (-1))]
   else
   .fail
  | .ret =>
   .ret .ret [(g c23 0)]))
theorem t80_eq (v900 v901 : AVal) : afun cx 80 [v900, v901] = t80 v900 v901 := by kernel_rfl
def t81 (v900 v901 : AVal) : IT :=
 .call 139 [v900] fun v0 =>
 .loop 3 [(I (-1)), v0] (fun c1 =>
  .op (.len false) [v900] fun v2 =>
  .op (.int .lss) [(g c1 1), v2] fun v3 =>
  .cnd v3 (
   .op (.eaddr 3) [v900, (g c1 1)] fun v4 =>
   .op (.faddr 1) [v4] fun v5 =>
   .load none v5 fun v6 =>
   .op (.str .eql) [v6, v901] fun v7 =>
   .cnd v7 (
    .op (.int .add) [(g c1 1), (I 1)] fun v8 =>
    .ret .normal [(g c1 1), v8]) (
    .op (.int .add) [(g c1 1), (I 1)] fun v9 =>
    .ret .normal [(g c1 0), v9])) (
   .ret (.exit 0) [(g c1 0), (g c1 1)])) (
 fun x c10 => match x with
 | .normal =>
  .ret .ret [(g c10 0)]
 | .exit i =>
  if i = 0 then
   .ret .ret [(g c10 0)]
  else
  .fail
 | .ret =>
  .ret .ret [(I 0)])
theorem t81_eq (v900 v901 : AVal) : afun cx 81 [v900, v901] = t81 v900 v901 := by kernel_rfl
def t82 (v900 v901 : AVal) : IT :=
 .op (.peq false) [v900, (.ptr none)] fun v0 =>
 .cnd v0 (
  .ret .ret [(I (-1))]) (
  .op (.int .eql) [v901, (I 0)] fun v1 =>
  .cnd v1 (
   .ret .ret [(I (-1))]) (
   .op .nonnil [v900] fun v2 =>
   .op (.faddr 0) [v2] fun v3 =>
   .load none v3 fun v4 =>
   .op (.len false) [v4] fun v5 =>
   .op (.int .sub) [v5, (I 1)] fun v6 =>
   .loop 4 [(I 0), v6] (fun c7 =>
    .op (.int .geq) [(g c7 1), (I 0)] fun v8 =>
    .cnd v8 (
     .op .nonnil [v900] fun v9 =>
     .op (.faddr 0) [v9] fun v10 =>
     .load none v10 fun v11 =>
     .op (.eaddr 3) [v11, (g c7 1)] fun v12 =>
     .op (.faddr 0) [v12] fun v13 =>
     .load none v13 fun v14 =>
     .op (.int .eql) [v14, v901] fun v15 =>
     .cnd v15 (
      .ret .ret [(g c7 1), (g c7 1)]) (
      .op (.int .sub) [(g c7 1), (I 1)] fun v16 =>
      .ret .normal [(g c7 0), v16])) (
     .ret (.exit 0) [(g c7 0), (g c7 1)])) (
   fun x c17 => match x with
   | .normal =>
    .ret .ret [(I (-1))]
   | .exit i =>
    if i = 0 then
     .ret .ret [(I (-1))]
    else
    .fail
   | .ret =>
    .ret .ret [(g c17 0)])))
theorem t82_eq (v900 v901 : AVal) : afun cx 82 [v900, v901] = t82 v900 v901 := by kernel_rfl
def t83 (v900 v901 : AVal) : IT :=
 .loop 3 [(I (-1)), (I 0)] (fun c0 =>
  .op (.len false) [v900] fun v1 =>
  .op (.int .lss) [(g c0 1), v1] fun v2 =>
  .cnd v2 (
   .op (.int .neq) [v901, (I 0)] fun v3 =>
   .cnd v3 (
    .op (.eaddr 3) [v900, (g c0 1)] fun v4 =>
    .op (.faddr 0) [v4] fun v5 =>
    .load none v5 fun v6 =>
    .op (.int .eql) [v6, v901] fun v7 =>
    .cnd v7 (
     .op (.int .add) [(g c0 1), (I 1)] fun v8 =>
     .ret .normal [(g c0 1), v8]) (
     .op (.int .add) [(g c0 1), (I 1)] fun v9 =>
     .ret .normal [(g c0 0), v9])) (
    .op (.int .add) [(g c0 1), (I 1)] fun v10 =>
    .ret .normal [(g c0 0), v10])) (
   .ret (.exit 0) [(g c0 0), (g c0 1)])) (
 fun x c11 => match x with
 | .normal =>
  .ret .ret [(g c11 0)]
 | .exit i =>
  if i = 0 then
   .ret .ret [(g c11 0)]
  else
  .fail
 | .ret =>
  .ret .ret [(I 0)])
theorem t83_eq (v900 v901 : AVal) : afun cx 83 [v900, v901] = t83 v900 v901 := by kernel_rfl
def t84 (v900 v901 : AVal) : IT :=
 .cells 3 v900 fun c0 =>
 .cells 3 v901 fun c1 =>
 .op (.str .neq) [(g c0 1), (g c1 1)] fun v2 =>
 .cnd v2 (
  .ret .ret [ff]) (
  .op (.len false) [(g c0 2)] fun v3 =>
  .op (.len false) [(g c1 2)] fun v4 =>
  .op (.int .neq) [v3, v4] fun v5 =>
  .cnd v5 (
   .ret .ret [ff]) (
   .loop 4 [ff, (I 0)] (fun c6 =>
    .op (.len false) [(g c0 2)] fun v7 =>
    .op (.int .lss) [(g c6 1), v7] fun v8 =>
    .cnd v8 (
     .op (.eaddr 3) [(g c0 2), (g c6 1)] fun v9 =>
     .load (some 3) v9 fun v10 =>
     .call 140 [(g c1 2), v10] fun v11 =>
     .op (.un .not) [v11] fun v12 =>
     .cnd v12 (
      .ret .ret [ff, (g c6 1)]) (
      .op (.eaddr 3) [(g c1 2), (g c6 1)] fun v13 =>
      .load (some 3) v13 fun v14 =>
      .call 140 [(g c0 2), v14] fun v15 =>
      .op (.un .not) [v15] fun v16 =>
      .cnd v16 (
       .ret .ret [ff, (g c6 1)]) (
       .op (.int .add) [(g c6 1), (I 1)] fun v17 =>
       .ret .normal [(g c6 0), v17]))) (
     .ret (.exit 0) [(g c6 0), (g c6 1)])) (
   fun x c18 => match x with
   | .normal =>
    .ret .ret [tt]
   | .exit i =>
    if i = 0 then
     .ret .ret [tt]
    else
    .fail
   | .ret =>
    .ret .ret [(g c18 0)])))
theorem t84_eq (v900 v901 : AVal) : afun cx 84 [v900, v901] = t84 v900 v901 := by kernel_rfl
def t85 (v900 v901 : AVal) : IT :=
 .mnew fun v0 =>
 .op (.mkagg [(I 0), (S []), (S [])] [(0, 1), (1, 1)]) [(I 4), (S [97,99,116,117,97,116,101])] fun v1 =>
 .mset v0 (S [120,108,105,110,107,58,97,99,116,117,97,116,101]) v1 (
 .op (.mkagg [(I 0), (S []), (S [])] [(0, 1), (1, 1)]) [(I 4), (S [97,114,99,114,111,108,101])] fun v2 =>
 .mset v0 (S [120,108,105,110,107,58,97,114,99,114,111,108,101]) v2 (
 .op (.mkagg [(I 0), (S []), (S [])] [(0, 1), (1, 1)]) [(I 4), (S [104,114,101,102])] fun v3 =>
 .mset v0 (S [120,108,105,110,107,58,104,114,101,102]) v3 (
 .op (.mkagg [(I 0), (S []), (S [])] [(0, 1), (1, 1)]) [(I 4), (S [114,111,108,101])] fun v4 =>
 .mset v0 (S [120,108,105,110,107,58,114,111,108,101]) v4 (
 .op (.mkagg [(I 0), (S []), (S [])] [(0, 1), (1, 1)]) [(I 4), (S [115,104,111,119])] fun v5 =>
 .mset v0 (S [120,108,105,110,107,58,115,104,111,119]) v5 (
 .op (.mkagg [(I 0), (S []), (S [])] [(0, 1), (1, 1)]) [(I 4), (S [116,105,116,108,101])] fun v6 =>
 .mset v0 (S [120,108,105,110,107,58,116,105,116,108,101]) v6 (
 .op (.mkagg [(I 0), (S []), (S [])] [(0, 1), (1, 1)]) [(I 4), (S [116,121,112,101])] fun v7 =>
 .mset v0 (S [120,108,105,110,107,58,116,121,112,101]) v7 (
 .op (.mkagg [(I 0), (S []), (S [])] [(0, 1), (1, 1)]) [(I 5), (S [108,97,110,103])] fun v8 =>
 .mset v0 (S [120,109,108,58,108,97,110,103]) v8 (
 .op (.mkagg [(I 0), (S []), (S [])] [(0, 1), (1, 1)]) [(I 5), (S [115,112,97,99,101])] fun v9 =>
 .mset v0 (S [120,109,108,58,115,112,97,99,101]) v9 (
 .op (.mkagg [(I 0), (S []), (S [])] [(0, 1), (1, 1)]) [(I 6), (S [120,109,108,110,115])] fun v10 =>
 .mset v0 (S [120,109,108,110,115]) v10 (
 .op (.mkagg [(I 0), (S []), (S [])] [(0, 1), (1, 1)]) [(I 6), (S [120,108,105,110,107])] fun v11 =>
 .mset v0 (S [120,109,108,110,115,58,120,108,105,110,107]) v11 (
 .op (.len false) [v901] fun v12 =>
 .loop 4 [.slnil, (I 0)] (fun c13 =>
  .op (.int .lss) [(g c13 1), v12] fun v14 =>
  .cnd v14 (
   .op (.eaddr 3) [v901, (g c13 1)] fun v15 =>
   .load (some 3) v15 fun v16 =>
   .cells 3 v16 fun c17 =>
   .op (.mkagg [(I 0), (S []), (S [])] [(1, 1), (2, 1)]) [(g c17 1), (g c17 2)] fun v18 =>
   .cells 3 v18 fun c19 =>
   .op (.int .eql) [v900, (I 2)] fun v20 =>
   .join 100036 (
    .cnd v20 (
     .pcall 141 [(g c17 1)] fun v21 =>
     .cells 1 v21 fun c22 =>
     .ret .normal [(.agg [(g c19 0), (g c22 0), (g c19 2)])]) (
     .join 200009 (
      .op (.int .eql) [v900, (I 3)] fun v23 =>
      .cnd v23 (
       .op (.str .eql) [(g c17 1), (S [100,101,102,105,110,105,116,105,111,110,117,114,108])] fun v24 =>
       .ret .normal [v24]) (
       .ret .normal [ff])) (
     fun x c25 => match x with
     | .normal =>
      .join 100043 (
       .cnd (g c25 0) (
        .cells 1 (S [100,101,102,105,110,105,116,105,111,110,85,82,76]) fun c26 =>
        .ret .normal [(.agg [(g c19 0), (g c26 0), (g c19 2)])]) (
        .ret .normal [(.agg [(g c19 0), (g c19 1), (g c19 2)])])) (
      fun x c27 => .cells 3 (g c27 0) fun c28 => .ret x [(.agg [(g c28 0), (g c28 1), (g c28 2)])])
     | .exit i =>
      .ret (.exit i) [(.agg [(g c19 0), (g c19 1), (g c19 2)])]
     | .ret =>
      .ret .ret [(.agg [(g c19 0), (g c19 1), (g c19 2)])]))) (
   fun x c29 => .cells 3 (g c29 0) fun c30 => match x with
   | .normal =>
    .mget (.agg [(I 0), (S []), (S [])]) true v0 (g c30 1) fun v31 =>
    .op (.ext 0) [v31] fun v32 =>
    .op (.ext 1) [v31] fun v33 =>
    .cells 3 v32 fun c34 =>
    .join 200012 (
     .cnd v33 (
      .op (.int .eql) [v900, (I 2)] fun v35 =>
      .cnd v35 (
       .ret .normal [tt]) (
       .op (.int .eql) [v900, (I 3)] fun v36 =>
       .ret .normal [v36])) (
      .ret .normal [ff])) (
    fun x c37 => match x with
    | .normal =>
     .join 100067 (
      .cnd (g c37 0) (
       .cells 1 (g c34 0) fun c38 =>
       .cells 1 (g c34 1) fun c39 =>
       .ret .normal [(.agg [(g c38 0), (g c39 0), (g c30 2)])]) (
       .ret .normal [(.agg [(g c30 0), (g c30 1), (g c30 2)])])) (
     fun x c40 => .cells 3 (g c40 0) fun c41 => match x with
     | .normal =>
      .op (.mksl 3) [(.agg [(g c41 0), (g c41 1), (g c41 2)])] fun v42 =>
      .op (.append 3 40) [(g c13 0), v42] fun v43 =>
      .op (.int .add) [(g c13 1), (I 1)] fun v44 =>
      .ret .normal [v43, v44]
     | .exit i =>
      if i = 1 then
       .op (.int .add) [(g c13 1), (I 1)] fun v45 =>
       .ret .normal [(g c13 0), v45]
      else
      .ret (.exit i) [(g c13 0), (g c13 1)]
     | .ret =>
      .ret .ret [(g c13 0), (g c13 1)])
    | .exit i =>
     if i = 1 then
      .op (.int .add) [(g c13 1), (I 1)] fun v46 =>
      .ret .normal [(g c13 0), v46]
     else
     .ret (.exit i) [(g c13 0), (g c13 1)]
    | .ret =>
     .ret .ret [(g c13 0), (g c13 1)])
   | .exit i =>
    if i = 2 then
     .mget (.agg [(I 0), (S []), (S [])]) true v0 (g c30 1) fun v47 =>
     .op (.ext 0) [v47] fun v48 =>
     .op (.ext 1) [v47] fun v49 =>
     .cells 3 v48 fun c50 =>
     .join 200012 (
      .cnd v49 (
       .op (.int .eql) [v900, (I 2)] fun v51 =>
       .cnd v51 (
        .ret .normal [tt]) (
        .op (.int .eql) [v900, (I 3)] fun v52 =>
        .ret .normal [v52])) (
       .ret .normal [ff])) (
     fun x c53 => match x with
     | .normal =>
      .join 100067 (
       .cnd (g c53 0) (
        .cells 1 (g c50 0) fun c54 =>
        .cells 1 (g c50 1) fun c55 =>
        .ret .normal [(.agg [(g c54 0), (g c55 0), (g c30 2)])]) (
        .ret .normal [(.agg [(g c30 0), (g c30 1), (g c30 2)])])) (
      fun x c56 => .cells 3 (g c56 0) fun c57 => match x with
      | .normal =>
       .op (.mksl 3) [(.agg [(g c57 0), (g c57 1), (g c57 2)])] fun v58 =>
       .op (.append 3 40) [(g c13 0), v58] fun v59 =>
       .op (.int .add) [(g c13 1), (I 1)] fun v60 =>
       .ret .normal [v59, v60]
      | .exit i =>
       if i = 1 then
        .op (.int .add) [(g c13 1), (I 1)] fun v61 =>
        .ret .normal [(g c13 0), v61]
       else
       .ret (.exit i) [(g c13 0), (g c13 1)]
      | .ret =>
       .ret .ret [(g c13 0), (g c13 1)])
     | .exit i =>
      if i = 1 then
       .op (.int .add) [(g c13 1), (I 1)] fun v62 =>
       .ret .normal [(g c13 0), v62]
      else
      .ret (.exit i) [(g c13 0), (g c13 1)]
     | .ret =>
      .ret .ret [(g c13 0), (g c13 1)])
    else
    if i = 1 then
     .op (.int .add) [(g c13 1), (I 1)] fun v63 =>
     .ret .normal [(g c13 0), v63]
    else
    .ret (.exit i) [(g c13 0), (g c13 1)]
   | .ret =>
    .ret .ret [(g c13 0), (g c13 1)])) (
   .ret (.exit 0) [(g c13 0), (g c13 1)])) (
 fun x c64 => match x with
 | .normal =>
  .ret .ret [(g c64 0)]
 | .exit i =>
  if i = 0 then
   .ret .ret [(g c64 0)]
  else
  .fail
 | .ret =>
  .ret .ret [.slnil]))))))))))))
theorem t85_eq (v900 v901 : AVal) : afun cx 85 [v900, v901] = t85 v900 v901 := by kernel_rfl
def t86 (v900 v901 : AVal) : IT :=
 .op (.len false) [v900] fun v0 =>
 .op (.len false) [v901] fun v1 =>
 .op (.int .neq) [v0, v1] fun v2 =>
 .cnd v2 (
  .ret .ret [ff]) (
  .loop 4 [ff, (I 0)] (fun c3 =>
   .op (.len false) [v900] fun v4 =>
   .op (.int .lss) [(g c3 1), v4] fun v5 =>
   .cnd v5 (
    .op (.eaddr 3) [v900, (g c3 1)] fun v6 =>
    .load (some 3) v6 fun v7 =>
    .op (.eaddr 3) [v901, (g c3 1)] fun v8 =>
    .load (some 3) v8 fun v9 =>
    .op (.geq true [.i, .s, .s]) [v7, v9] fun v10 =>
    .cnd v10 (
     .ret .ret [ff, (g c3 1)]) (
     .op (.int .add) [(g c3 1), (I 1)] fun v11 =>
     .ret .normal [(g c3 0), v11])) (
    .ret (.exit 0) [(g c3 0), (g c3 1)])) (
  fun x c12 => match x with
  | .normal =>
   .ret .ret [tt]
  | .exit i =>
   if i = 0 then
    .ret .ret [tt]
   else
   .fail
  | .ret =>
   .ret .ret [(g c12 0)]))
theorem t86_eq (v900 v901 : AVal) : afun cx 86 [v900, v901] = t86 v900 v901 := by kernel_rfl
def t87 (v900 v901 : AVal) : IT :=
 .loop 3 [.slnil, (I 0)] (fun c0 =>
  .op (.len false) [v901] fun v1 =>
  .op (.int .lss) [(g c0 1), v1] fun v2 =>
  .cnd v2 (
   .op (.eaddr 3) [v901, (g c0 1)] fun v3 =>
   .op (.faddr 1) [v3] fun v4 =>
   .load none v4 fun v5 =>
   .op (.eaddr 3) [v901, (g c0 1)] fun v6 =>
   .op (.faddr 2) [v6] fun v7 =>
   .load none v7 fun v8 =>
   .op (.mkagg [(I 0), (S []), (S [])] [(1, 1), (2, 1)]) [v5, v8] fun v9 =>
   .cells 3 v9 fun c10 =>
   .join 200006 (
    .op (.int .eql) [v900, (I 3)] fun v11 =>
    .cnd v11 (
     .op (.str .eql) [(g c10 1), (S [100,101,102,105,110,105,116,105,111,110,117,114,108])] fun v12 =>
     .ret .normal [v12]) (
     .ret .normal [ff])) (
   fun x c13 => match x with
   | .normal =>
    .join 100031 (
     .cnd (g c13 0) (
      .cells 1 (S [100,101,102,105,110,105,116,105,111,110,85,82,76]) fun c14 =>
      .ret .normal [(.agg [(g c10 0), (g c14 0), (g c10 2)])]) (
      .ret .normal [(.agg [(g c10 0), (g c10 1), (g c10 2)])])) (
    fun x c15 => .cells 3 (g c15 0) fun c16 => match x with
    | .normal =>
     .op (.int .eql) [v900, (I 2)] fun v17 =>
     .join 100034 (
      .cnd v17 (
       .pcall 117 [(S [97,116,116,114,105,98,117,116,101,78,97,109,101,32,97,116,116,114,105,98,117,116,101,84,121,112,101,32,98,97,115,101,70,114,101,113,117,101,110,99,121,32,98,97,115,101,80,114,111,102,105,108,101,32,99,97,108,99,77,111,100,101,32,99,108,105,112,80,97,116,104,85,110,105,116,115,32,100,105,102,102,117,115,101,67,111,110,115,116,97,110,116,32,101,100,103,101,77,111,100,101,32,102,105,108,116,101,114,85,110,105,116,115,32,103,108,121,112,104,82,101,102,32,103,114,97,100,105,101,110,116,84,114,97,110,115,102,111,114,109,32,103,114,97,100,105,101,110,116,85,110,105,116,115,32,107,101,114,110,101,108,77,97,116,114,105,120,32,107,101,114,110,101,108,85,110,105,116,76,101,110,103,116,104,32,107,101,121,80,111,105,110,116,115,32,107,101,121,83,112,108,105,110,101,115,32,107,101,121,84,105,109,101,115,32,108,101,110,103,116,104,65,100,106,117,115,116,32,108,105,109,105,116,105,110,103,67,111,110,101,65,110,103,108,101,32,109,97,114,107,101,114,72,101,105,103,104,116,32,109,97,114,107,101,114,85,110,105,116,115,32,109,97,114,107,101,114,87,105,100,116,104,32,109,97,115,107,67,111,110,116,101,110,116,85,110,105,116,115,32,109,97,115,107,85,110,105,116,115,32,110,117,109,79,99,116,97,118,101,115,32,112,97,116,104,76,101,110,103,116,104,32,112,97,116,116,101,114,110,67,111,110,116,101,110,116,85,110,105,116,115,32,112,97,116,116,101,114,110,84,114,97,110,115,102,111,114,109,32,112,97,116,116,101,114,110,85,110,105,116,115,32,112,111,105,110,116,115,65,116,88,32,112,111,105,110,116,115,65,116,89,32,112,111,105,110,116,115,65,116,90,32,112,114,101,115,101,114,118,101,65,108,112,104,97,32,112,114,101,115,101,114,118,101,65,115,112,101,99,116,82,97,116,105,111,32,112,114,105,109,105,116,105,118,101,85,110,105,116,115,32,114,101,102,88,32,114,101,102,89,32,114,101,112,101,97,116,67,111,117,110,116,32,114,101,112,101,97,116,68,117,114,32,114,101,113,117,105,114,101,100,69,120,116,101,110,115,105,111,110,115,32,114,101,113,117,105,114,101,100,70,101,97,116,117,114,101,115,32,115,112,101,99,117,108,97,114,67,111,110,115,116,97,110,116,32,115,112,101,99,117,108,97,114,69,120,112,111,110,101,110,116,32,115,112,114,101,97,100,77,101,116,104,111,100,32,115,116,97,114,116,79,102,102,115,101,116,32,115,116,100,68,101,118,105,97,116,105,111,110,32,115,116,105,116,99,104,84,105,108,101,115,32,115,117,114,102,97,99,101,83,99,97,108,101,32,115,121,115,116,101,109,76,97,110,103,117,97,103,101,32,116,97,98,108,101,86,97,108,117,101,115,32,116,97,114,103,101,116,88,32,116,97,114,103,101,116,89,32,116,101,120,116,76,101,110,103,116,104,32,118,105,101,119,66,111,120,32,118,105,101,119,84,97,114,103,101,116,32,120,67,104,97,110,110,101,108,83,101,108,101,99,116,111,114,32,121,67,104,97,110,110,101,108,83,101,108,101,99,116,111,114,32,122,111,111,109,65,110,100,80,97,110]), (g c16 1)] fun v18 =>
       .cells 1 v18 fun c19 =>
       .ret .normal [(.agg [(g c16 0), (g c19 0), (g c16 2)])]) (
       .ret .normal [(.agg [(g c16 0), (g c16 1), (g c16 2)])])) (
     fun x c20 => .cells 3 (g c20 0) fun c21 => match x with
     | .normal =>
      .join 200010 (
       .op (.int .eql) [v900, (I 3)] fun v22 =>
       .cnd v22 (
        .ret .normal [tt]) (
        .op (.int .eql) [v900, (I 2)] fun v23 =>
        .ret .normal [v23])) (
      fun x c24 => match x with
      | .normal =>
       .join 100044 (
        .cnd (g c24 0) (
         .pcall 109 [(S [120,108,105,110,107,58,97,99,116,117,97,116,101,32,120,108,105,110,107,58,97,114,99,114,111,108,101,32,120,108,105,110,107,58,104,114,101,102,32,120,108,105,110,107,58,114,111,108,101,32,120,108,105,110,107,58,115,104,111,119,32,120,108,105,110,107,58,116,105,116,108,101,32,120,108,105,110,107,58,116,121,112,101]), (g c21 1)] fun v25 =>
         .join 100045 (
          .cnd v25 (
           .op (.slc 0 true true false) [(g c21 1), (I 6)] fun v26 =>
           .cells 1 (I 4) fun c27 =>
           .cells 1 v26 fun c28 =>
           .ret .normal [(.agg [(g c27 0), (g c28 0), (g c21 2)])]) (
           .join 200013 (
            .op (.str .eql) [(g c21 1), (S [120,109,108,58,108,97,110,103])] fun v29 =>
            .cnd v29 (
             .ret .normal [tt]) (
             .op (.str .eql) [(g c21 1), (S [120,109,108,58,115,112,97,99,101])] fun v30 =>
             .ret .normal [v30])) (
           fun x c31 => match x with
           | .normal =>
            .join 100054 (
             .cnd (g c31 0) (
              .op (.slc 0 true true false) [(g c21 1), (I 4)] fun v32 =>
              .cells 1 (I 5) fun c33 =>
              .cells 1 v32 fun c34 =>
              .ret .normal [(.agg [(g c33 0), (g c34 0), (g c21 2)])]) (
              .op (.str .eql) [(g c21 1), (S [120,109,108,110,115])] fun v35 =>
              .join 100068 (
               .cnd v35 (
                .cells 1 (I 6) fun c36 =>
                .ret .normal [(.agg [(g c36 0), (g c21 1), (g c21 2)])]) (
                .op (.str .eql) [(g c21 1), (S [120,109,108,110,115,58,120,108,105,110,107])] fun v37 =>
                .join 100073 (
                 .cnd v37 (
                  .cells 1 (I 6) fun c38 =>
                  .cells 1 (S [120,108,105,110,107]) fun c39 =>
                  .ret .normal [(.agg [(g c38 0), (g c39 0), (g c21 2)])]) (
                  .ret .normal [(.agg [(g c21 0), (g c21 1), (g c21 2)])])) (
                fun x c40 => .cells 3 (g c40 0) fun c41 => .ret x [(.agg [(g c41 0), (g c41 1), (g c41 2)])]))) (
              fun x c42 => .cells 3 (g c42 0) fun c43 => .ret x [(.agg [(g c43 0), (g c43 1), (g c43 2)])]))) (
            fun x c44 => .cells 3 (g c44 0) fun c45 => .ret x [(.agg [(g c45 0), (g c45 1), (g c45 2)])])
           | .exit i =>
            .ret (.exit i) [(.agg [(g c21 0), (g c21 1), (g c21 2)])]
           | .ret =>
            .ret .ret [(.agg [(g c21 0), (g c21 1), (g c21 2)])]))) (
         fun x c46 => .cells 3 (g c46 0) fun c47 => match x with
         | .normal =>
          .ret .normal [(.agg [(g c47 0), (g c47 1), (g c47 2)])]
         | .exit i =>
          if i = 2 then
           .ret .normal [(.agg [(g c47 0), (g c47 1), (g c47 2)])]
          else
          .ret (.exit i) [(.agg [(g c47 0), (g c47 1), (g c47 2)])]
         | .ret =>
          .ret .ret [(.agg [(g c47 0), (g c47 1), (g c47 2)])])) (
         .ret .normal [(.agg [(g c21 0), (g c21 1), (g c21 2)])])) (
       fun x c48 => .cells 3 (g c48 0) fun c49 => match x with
       | .normal =>
        .op (.mksl 3) [(.agg [(g c49 0), (g c49 1), (g c49 2)])] fun v50 =>
        .op (.append 3 40) [(g c0 0), v50] fun v51 =>
        .op (.int .add) [(g c0 1), (I 1)] fun v52 =>
        .ret .normal [v51, v52]
       | .exit i =>
        if i = 1 then
         .op (.int .add) [(g c0 1), (I 1)] fun v53 =>
         .ret .normal [(g c0 0), v53]
        else
        .ret (.exit i) [(g c0 0), (g c0 1)]
       | .ret =>
        .ret .ret [(g c0 0), (g c0 1)])
      | .exit i =>
       if i = 1 then
        .op (.int .add) [(g c0 1), (I 1)] fun v54 =>
        .ret .normal [(g c0 0), v54]
       else
       .ret (.exit i) [(g c0 0), (g c0 1)]
      | .ret =>
       .ret .ret [(g c0 0), (g c0 1)])
     | .exit i =>
      if i = 1 then
       .op (.int .add) [(g c0 1), (I 1)] fun v55 =>
       .ret .normal [(g c0 0), v55]
      else
      .ret (.exit i) [(g c0 0), (g c0 1)]
     | .ret =>
      .ret .ret [(g c0 0), (g c0 1)])
    | .exit i =>
     if i = 1 then
      .op (.int .add) [(g c0 1), (I 1)] fun v56 =>
      .ret .normal [(g c0 0), v56]
     else
     .ret (.exit i) [(g c0 0), (g c0 1)]
    | .ret =>
     .ret .ret [(g c0 0), (g c0 1)])
   | .exit i =>
    if i = 1 then
     .op (.int .add) [(g c0 1), (I 1)] fun v57 =>
     .ret .normal [(g c0 0), v57]
    else
    .ret (.exit i) [(g c0 0), (g c0 1)]
   | .ret =>
    .ret .ret [(g c0 0), (g c0 1)])) (
   .ret (.exit 0) [(g c0 0), (g c0 1)])) (
 fun x c58 => match x with
 | .normal =>
  .ret .ret [(g c58 0)]
 | .exit i =>
  if i = 0 then
   .ret .ret [(g c58 0)]
  else
  .fail
 | .ret =>
  .ret .ret [.slnil])
theorem t87_eq (v900 v901 : AVal) : afun cx 87 [v900, v901] = t87 v900 v901 := by kernel_rfl
def t88 (v900 : AVal) : IT :=
 .loop 2 [ff, (I 0)] (fun c0 =>
  .op (.len false) [v900] fun v1 =>
  .op (.int .lss) [(g c0 1), v1] fun v2 =>
  .cnd v2 (
   .op (.int .leq) [(g c0 1), (I 80)] fun v3 =>
   .cnd v3 (
    .op (.eaddr 8) [v900, (g c0 1)] fun v4 =>
    .op (.faddr 4) [v4] fun v5 =>
    .load none v5 fun v6 =>
    .op (.len true) [v6] fun v7 =>
    .op (.int .gtr) [v7, (I 60)] fun v8 =>
    .cnd v8 (
     .ret .ret [ff, (g c0 1)]) (
     .op (.eaddr 8) [v900, (g c0 1)] fun v9 =>
     .op (.faddr 6) [v9] fun v10 =>
     .load none v10 fun v11 =>
     .call 22 [v11] fun v12 =>
     .op (.un .not) [v12] fun v13 =>
     .cnd v13 (
      .ret .ret [ff, (g c0 1)]) (
      .op (.int .add) [(g c0 1), (I 1)] fun v14 =>
      .ret .normal [(g c0 0), v14]))) (
    .ret (.exit 0) [(g c0 0), (g c0 1)])) (
   .ret (.exit 0) [(g c0 0), (g c0 1)])) (
 fun x c15 => match x with
 | .normal =>
  .op (.len false) [v900] fun v16 =>
  .op (.int .leq) [v16, (I 80)] fun v17 =>
  .ret .ret [v17]
 | .exit i =>
  if i = 0 then
   .op (.len false) [v900] fun v18 =>
   .op (.int .leq) [v18, (I 80)] fun v19 =>
   .ret .ret [v19]
  else
  .fail
 | .ret =>
  .ret .ret [(g c15 0)])
theorem t88_eq (v900 : AVal) : afun cx 88 [v900] = t88 v900 := by kernel_rfl
def t89 (v900 v901 : AVal) : IT :=
 .cells 8 v901 fun c0 =>
 .op (.mkagg [(I 0), (I 0), (S []), ff] []) [] fun v1 =>
 .cells 4 v1 fun c2 =>
 .op (.int .eql) [(g c0 0), (I 1)] fun v3 =>
 .cnd v3 (
  .call 142 [(.agg [(g c0 0), (g c0 1), (g c0 2), (g c0 3), (g c0 4), (g c0 5), (g c0 6), (g c0 7)]), (g c0 1)] fun v4 =>
  .call 92 [v900, v4] fun v5 =>
  .cells 4 (.agg [(g c2 0), (g c2 1), (g c2 2), (g c2 3)]) fun c6 =>
  .ret .ret [(.tuple [(.agg [(g c6 0), (g c6 1), (g c6 2), (g c6 3)]), (I 0)])]) (
  .op (.int .eql) [(g c0 0), (I 2)] fun v7 =>
  .cnd v7 (
   .call 93 [v900] fun v8 =>
   .call 32 [v8] fun v9 =>
   .cells 4 v9 fun c10 =>
   .ret .ret [(.tuple [(.agg [(g c10 0), (g c10 1), (g c10 2), (g c10 3)]), (I 0)])]) (
   .op (.int .eql) [(g c0 0), (I 3)] fun v11 =>
   .cnd v11 (
    .call 31 [v900, (g c0 6)] fun v12 =>
    .cells 4 (.agg [(g c2 0), (g c2 1), (g c2 2), (g c2 3)]) fun c13 =>
    .ret .ret [(.tuple [(.agg [(g c13 0), (g c13 1), (g c13 2), (g c13 3)]), v12])]) (
    .op (.int .eql) [(g c0 0), (I 4)] fun v14 =>
    .cnd v14 (
     .call 143 [v900, (g c0 1)] fun v15 =>
     .cells 4 (.agg [(g c2 0), (g c2 1), (g c2 2), (g c2 3)]) fun c16 =>
     .ret .ret [(.tuple [(.agg [(g c16 0), (g c16 1), (g c16 2), (g c16 3)]), v15])]) (
     .op (.int .eql) [(g c0 0), (I 5)] fun v17 =>
     .cnd v17 (
      .call 30 [v900, (g c0 4)] fun v18 =>
      .cells 4 (.agg [(g c2 0), (g c2 1), (g c2 2), (g c2 3)]) fun c19 =>
      .ret .ret [(.tuple [(.agg [(g c19 0), (g c19 1), (g c19 2), (g c19 3)]), v18])]) (
      .op (.int .eql) [(g c0 0), (I 6)] fun v20 =>
      .cnd v20 (
       .call 144 [v900] fun v21 =>
       .cells 4 (.agg [(g c2 0), (g c2 1), (g c2 2), (g c2 3)]) fun c22 =>
       .ret .ret [(.tuple [(.agg [(g c22 0), (g c22 1), (g c22 2), (g c22 3)]), v21])]) (
       .op (.int .eql) [(g c0 0), (I 7)] fun v23 =>
       .cnd v23 (
        .call 29 [v900, (g c0 6)] fun v24 =>
        .cells 4 (.agg [(g c2 0), (g c2 1), (g c2 2), (g c2 3)]) fun c25 =>
        .ret .ret [(.tuple [(.agg [(g c25 0), (g c25 1), (g c25 2), (g c25 3)]), v24])]) (
        .op (.int .eql) [(g c0 0), (I 8)] fun v26 =>
        .cnd v26 (
         .call 70 [v900, (g c0 1)] fun v27 =>
         .pcall 132 [v27] fun v28 =>
         .cells 4 (.agg [(g c2 0), (g c2 1), (g c2 2), (g c2 3)]) fun c29 =>
         .ret .ret [(.tuple [(.agg [(g c29 0), (g c29 1), (g c29 2), (g c29 3)]), v28])]) (
         .op (.int .eql) [(g c0 0), (I 9)] fun v30 =>
         .cnd v30 (
          .call 142 [(.agg [(g c0 0), (g c0 1), (g c0 2), (g c0 3), (g c0 4), (g c0 5), (g c0 6), (g c0 7)]), (g c0 2)] fun v31 =>
          .call 66 [v900, (g c0 1), v31] fun v32 =>
          .pcall 132 [v32] fun v33 =>
          .cells 4 (.agg [(g c2 0), (g c2 1), (g c2 2), (g c2 3)]) fun c34 =>
          .ret .ret [(.tuple [(.agg [(g c34 0), (g c34 1), (g c34 2), (g c34 3)]), v33])]) (
          .op (.int .eql) [(g c0 0), (I 10)] fun v35 =>
          .cnd v35 (
           .call 142 [(.agg [(g c0 0), (g c0 1), (g c0 2), (g c0 3), (g c0 4), (g c0 5), (g c0 6), (g c0 7)]), (g c0 1)] fun v36 =>
           .call 69 [v900, v36, (g c0 7)] fun v37 =>
           .cells 4 (.agg [(g c2 0), (g c2 1), (g c2 2), (g c2 3)]) fun c38 =>
           .ret .ret [(.tuple [(.agg [(g c38 0), (g c38 1), (g c38 2), (g c38 3)]), (I 0)])]) (
           .cells 4 (.agg [(g c2 0), (g c2 1), (g c2 2), (g c2 3)]) fun c39 =>
           .ret .ret [(.tuple [(.agg [(g c39 0), (g c39 1), (g c39 2), (g c39 3)]), (I 0)])]))))))))))
theorem t89_eq (v900 v901 : AVal) : afun cx 89 [v900, v901] = t89 v900 v901 := by kernel_rfl
def t90 (v900 v901 : AVal) : IT :=
 .cells 8 v901 fun c0 =>
 .op (.mkagg [(I 0), (I 0), (S []), ff] []) [] fun v1 =>
 .cells 4 v1 fun c2 =>
 .op (.mkagg [(I 0), (I 0), (S []), ff] [(0, 1), (1, 1), (2, 1), (3, 1)]) [(g c0 1), (g c0 3), (g c0 4), (g c0 5)] fun v3 =>
 .cells 4 v3 fun c4 =>
 .op (.int .eql) [(g c0 0), (I 1)] fun v5 =>
 .cnd v5 (
  .op (.append 4 40) [.slnil, v900] fun v6 =>
  .op (.mksl 4) [(.agg [(g c4 0), (g c4 1), (g c4 2), (g c4 3)])] fun v7 =>
  .op (.append 4 40) [v6, v7] fun v8 =>
  .cells 4 (.agg [(g c2 0), (g c2 1), (g c2 2), (g c2 3)]) fun c9 =>
  .ret .ret [(.tuple [v8, (.agg [(g c9 0), (g c9 1), (g c9 2), (g c9 3)]), (I 0)])]) (
  .op (.int .eql) [(g c0 0), (I 2)] fun v10 =>
  .cnd v10 (
   .call 145 [v900] fun v11 =>
   .op (.len false) [v11] fun v12 =>
   .op (.len false) [v900] fun v13 =>
   .op (.int .eql) [v12, v13] fun v14 =>
   .cnd v14 (
    .cells 4 (.agg [(g c2 0), (g c2 1), (g c2 2), (g c2 3)]) fun c15 =>
    .ret .ret [(.tuple [v11, (.agg [(g c15 0), (g c15 1), (g c15 2), (g c15 3)]), (I 0)])]) (
    .call 91 [v900] fun v16 =>
    .cells 4 v16 fun c17 =>
    .ret .ret [(.tuple [v11, (.agg [(g c17 0), (g c17 1), (g c17 2), (g c17 3)]), (I 0)])])) (
   .op (.int .eql) [(g c0 0), (I 3)] fun v18 =>
   .cnd v18 (
    .call 146 [v900, (g c0 6)] fun v19 =>
    .op (.len false) [v900] fun v20 =>
    .op (.len false) [v19] fun v21 =>
    .op (.int .sub) [v20, v21] fun v22 =>
    .cells 4 (.agg [(g c2 0), (g c2 1), (g c2 2), (g c2 3)]) fun c23 =>
    .ret .ret [(.tuple [v19, (.agg [(g c23 0), (g c23 1), (g c23 2), (g c23 3)]), v22])]) (
    .op (.int .eql) [(g c0 0), (I 4)] fun v24 =>
    .cnd v24 (
     .call 147 [v900, (g c0 1)] fun v25 =>
     .op (.len false) [v900] fun v26 =>
     .op (.len false) [v25] fun v27 =>
     .op (.int .sub) [v26, v27] fun v28 =>
     .cells 4 (.agg [(g c2 0), (g c2 1), (g c2 2), (g c2 3)]) fun c29 =>
     .ret .ret [(.tuple [v25, (.agg [(g c29 0), (g c29 1), (g c29 2), (g c29 3)]), v28])]) (
     .op (.int .eql) [(g c0 0), (I 5)] fun v30 =>
     .cnd v30 (
      .call 148 [v900, (g c0 4), ff] fun v31 =>
      .op (.len false) [v900] fun v32 =>
      .op (.len false) [v31] fun v33 =>
      .op (.int .sub) [v32, v33] fun v34 =>
      .cells 4 (.agg [(g c2 0), (g c2 1), (g c2 2), (g c2 3)]) fun c35 =>
      .ret .ret [(.tuple [v31, (.agg [(g c35 0), (g c35 1), (g c35 2), (g c35 3)]), v34])]) (
      .op (.int .eql) [(g c0 0), (I 6)] fun v36 =>
      .cnd v36 (
       .call 148 [v900, (S []), tt] fun v37 =>
       .op (.len false) [v900] fun v38 =>
       .op (.len false) [v37] fun v39 =>
       .op (.int .sub) [v38, v39] fun v40 =>
       .cells 4 (.agg [(g c2 0), (g c2 1), (g c2 2), (g c2 3)]) fun c41 =>
       .ret .ret [(.tuple [v37, (.agg [(g c41 0), (g c41 1), (g c41 2), (g c41 3)]), v40])]) (
       .op (.int .eql) [(g c0 0), (I 7)] fun v42 =>
       .cnd v42 (
        .call 149 [v900, (g c0 6)] fun v43 =>
        .op (.len false) [v900] fun v44 =>
        .op (.len false) [v43] fun v45 =>
        .op (.int .sub) [v44, v45] fun v46 =>
        .cells 4 (.agg [(g c2 0), (g c2 1), (g c2 2), (g c2 3)]) fun c47 =>
        .ret .ret [(.tuple [v43, (.agg [(g c47 0), (g c47 1), (g c47 2), (g c47 3)]), v46])]) (
        .op (.int .eql) [(g c0 0), (I 8)] fun v48 =>
        .cnd v48 (
         .call 150 [v900, (g c0 1)] fun v49 =>
         .op (.ext 0) [v49] fun v50 =>
         .op (.ext 1) [v49] fun v51 =>
         .pcall 132 [v51] fun v52 =>
         .cells 4 (.agg [(g c2 0), (g c2 1), (g c2 2), (g c2 3)]) fun c53 =>
         .ret .ret [(.tuple [v50, (.agg [(g c53 0), (g c53 1), (g c53 2), (g c53 3)]), v52])]) (
         .op (.int .eql) [(g c0 0), (I 9)] fun v54 =>
         .cnd v54 (
          .cells 1 (g c0 2) fun c55 =>
          .call 151 [v900, (g c0 1), (.agg [(g c55 0), (g c4 1), (g c4 2), (g c4 3)])] fun v56 =>
          .op (.ext 0) [v56] fun v57 =>
          .op (.ext 1) [v56] fun v58 =>
          .pcall 132 [v58] fun v59 =>
          .cells 4 (.agg [(g c2 0), (g c2 1), (g c2 2), (g c2 3)]) fun c60 =>
          .ret .ret [(.tuple [v57, (.agg [(g c60 0), (g c60 1), (g c60 2), (g c60 3)]), v59])]) (
          .op (.int .eql) [(g c0 0), (I 10)] fun v61 =>
          .cnd v61 (
           .call 152 [v900, (.agg [(g c4 0), (g c4 1), (g c4 2), (g c4 3)]), (g c0 7)] fun v62 =>
           .cells 4 (.agg [(g c2 0), (g c2 1), (g c2 2), (g c2 3)]) fun c63 =>
           .ret .ret [(.tuple [v62, (.agg [(g c63 0), (g c63 1), (g c63 2), (g c63 3)]), (I 0)])]) (
           .op (.len false) [v900] fun v64 =>
           .op (.len false) [v900] fun v65 =>
           .op (.int .sub) [v64, v65] fun v66 =>
           .cells 4 (.agg [(g c2 0), (g c2 1), (g c2 2), (g c2 3)]) fun c67 =>
           .ret .ret [(.tuple [v900, (.agg [(g c67 0), (g c67 1), (g c67 2), (g c67 3)]), v66])]))))))))))
theorem t90_eq (v900 v901 : AVal) : afun cx 90 [v900, v901] = t90 v900 v901 := by kernel_rfl
def t91 (v900 : AVal) : IT :=
 .op (.len false) [v900] fun v0 =>
 .op (.int .sub) [v0, (I 1)] fun v1 =>
 .call 37 [v900, v1] fun v2 =>
 .cells 4 v2 fun c3 =>
 .ret .ret [(.agg [(g c3 0), (g c3 1), (g c3 2), (g c3 3)])]
theorem t91_eq (v900 : AVal) : afun cx 91 [v900] = t91 v900 := by kernel_rfl
def t92 (v900 v901 : AVal) : IT :=
 .cells 4 v901 fun c0 =>
 .op (.peq true) [v900, (.ptr none)] fun v1 =>
 .cnd v1 (
  .op .nonnil [v900] fun v2 =>
  .op (.faddr 0) [v2] fun v3 =>
  .load none v3 fun v4 =>
  .op .nonnil [v900] fun v5 =>
  .op (.faddr 0) [v5] fun v6 =>
  .load none v6 fun v7 =>
  .op (.len false) [v7] fun v8 =>
  .call 119 [v4, (.agg [(g c0 0), (g c0 1), (g c0 2), (g c0 3)]), v8] fun v9 =>
  .op .nonnil [v900] fun v10 =>
  .op (.faddr 0) [v10] fun v11 =>
  .store 1 v11 v9 (
  .ret .ret [(.tuple [])])) (
  .ret .ret [(.tuple [])])
theorem t92_eq (v900 v901 : AVal) : afun cx 92 [v900, v901] = t92 v900 v901 := by kernel_rfl
def t93 (v900 : AVal) : IT :=
 .call 34 [v900] fun v0 =>
 .op (.int .lss) [v0, (I 2)] fun v1 =>
 .cnd v1 (
  .op (.mkagg [(I 0), (I 0), (S []), ff] []) [] fun v2 =>
  .cells 4 v2 fun c3 =>
  .ret .ret [(.agg [(g c3 0), (g c3 1), (g c3 2), (g c3 3)])]) (
  .call 33 [v900] fun v4 =>
  .cells 4 v4 fun c5 =>
  .op .nonnil [v900] fun v6 =>
  .op (.faddr 0) [v6] fun v7 =>
  .load none v7 fun v8 =>
  .op .nonnil [v900] fun v9 =>
  .op (.faddr 0) [v9] fun v10 =>
  .load none v10 fun v11 =>
  .op (.len false) [v11] fun v12 =>
  .op (.int .sub) [v12, (I 1)] fun v13 =>
  .op (.slc 4 false false true) [v8, v13] fun v14 =>
  .op .nonnil [v900] fun v15 =>
  .op (.faddr 0) [v15] fun v16 =>
  .store 1 v16 v14 (
  .cells 4 (.agg [(g c5 0), (g c5 1), (g c5 2), (g c5 3)]) fun c17 =>
  .ret .ret [(.agg [(g c17 0), (g c17 1), (g c17 2), (g c17 3)])]))
theorem t93_eq (v900 : AVal) : afun cx 93 [v900] = t93 v900 := by kernel_rfl
def t94 (v900 : AVal) : IT :=
 .op (.peq true) [v900, (.ptr none)] fun v0 =>
 .cnd v0 (
  .op .nonnil [v900] fun v1 =>
  .op (.faddr 0) [v1] fun v2 =>
  .load none v2 fun v3 =>
  .op (.mkagg [(I 0), (S []), .slnil] []) [] fun v4 =>
  .op .nonnil [v900] fun v5 =>
  .op (.faddr 0) [v5] fun v6 =>
  .load none v6 fun v7 =>
  .op (.len false) [v7] fun v8 =>
  .call 124 [v3, v4, v8] fun v9 =>
  .op .nonnil [v900] fun v10 =>
  .op (.faddr 0) [v10] fun v11 =>
  .store 1 v11 v9 (
  .ret .ret [(.tuple [])])) (
  .ret .ret [(.tuple [])])
theorem t94_eq (v900 : AVal) : afun cx 94 [v900] = t94 v900 := by kernel_rfl
def t95 (v900 : AVal) : IT :=
 .op (.peq false) [v900, (.ptr none)] fun v0 =>
 .cnd v0 (
  .ret .ret [(I 0)]) (
  .op .nonnil [v900] fun v1 =>
  .op (.faddr 0) [v1] fun v2 =>
  .load none v2 fun v3 =>
  .op (.len false) [v3] fun v4 =>
  .op .nonnil [v900] fun v5 =>
  .op (.faddr 0) [v5] fun v6 =>
  .load none v6 fun v7 =>
  .call 121 [v900] fun v8 =>
  .load none v6 fun v9 =>
  .same v7 v9 (
  .op (.int .sub) [v8, (I 1)] fun v10 =>
  .op (.minmax true) [v10, (I 0)] fun v11 =>
  .op (.slc 3 false false true) [v7, v11] fun v12 =>
  .op .nonnil [v900] fun v13 =>
  .op (.faddr 0) [v13] fun v14 =>
  .store 1 v14 v12 (
  .op .nonnil [v900] fun v15 =>
  .op (.faddr 0) [v15] fun v16 =>
  .load none v16 fun v17 =>
  .op (.len false) [v17] fun v18 =>
  .op (.int .sub) [v4, v18] fun v19 =>
  .ret .ret [v19])))
theorem t95_eq (v900 : AVal) : afun cx 95 [v900] = t95 v900 := by kernel_rfl
def t96 (v900 v901 v902 : AVal) : IT :=
 .cells 1 v902 fun c0 =>
 .call 153 [v901] fun v1 =>
 .cells 1 v1 fun c2 =>
 .call 106 [v900, (.func (.func 154) [] [(.rptr [(g c0 0)]), (.rptr [(g c2 0)])])] fun v3 =>
 .op (.int .geq) [v3, (I 0)] fun v4 =>
 .cnd v4 (
  .load none (.rptr [(g c0 0)]) fun v5 =>
  .op .nonnil [v900] fun v6 =>
  .op (.faddr 0) [v6] fun v7 =>
  .load none v7 fun v8 =>
  .op (.eaddr 4) [v8, v3] fun v9 =>
  .load (some 4) v9 fun v10 =>
  .callv v5 [v10] fun v11 =>
  .ret .ret [v11]) (
  .ret .ret [ff])
theorem t96_eq (v900 v901 v902 : AVal) : afun cx 96 [v900, v901, v902] = t96 v900 v901 v902 := by kernel_rfl
def t97 (v900 v901 : AVal) : IT :=
 .cells 4 v900 fun c0 =>
 .load none v901 fun v1 =>
 .call 98 [(.agg [(g c0 0), (g c0 1), (g c0 2), (g c0 3)]), v1] fun v2 =>
 .ret .ret [v2]
theorem t97_eq (v900 v901 : AVal) : afun cx 97 [v900, v901] = t97 v900 v901 := by kernel_rfl
def t98 (v900 v901 : AVal) : IT :=
 .cells 4 v900 fun c0 =>
 .op (.int .eql) [(g c0 1), (I 1)] fun v1 =>
 .cnd v1 (
  .call 155 [v901, (g c0 2)] fun v2 =>
  .ret .ret [v2]) (
  .ret .ret [ff])
theorem t98_eq (v900 v901 : AVal) : afun cx 98 [v900, v901] = t98 v900 v901 := by kernel_rfl
def t99 (v900 v901 v902 : AVal) : IT :=
 .op (.int .add) [v901, (I 1)] fun v0 =>
 .loop 2 [ff, v0] (fun c1 =>
  .op (.len false) [v900] fun v2 =>
  .op (.int .lss) [(g c1 1), v2] fun v3 =>
  .cnd v3 (
   .op (.eaddr 4) [v900, (g c1 1)] fun v4 =>
   .load (some 4) v4 fun v5 =>
   .call 156 [v5, v902] fun v6 =>
   .cnd v6 (
    .ret .ret [ff, (g c1 1)]) (
    .op (.int .add) [(g c1 1), (I 1)] fun v7 =>
    .ret .normal [(g c1 0), v7])) (
   .ret (.exit 0) [(g c1 0), (g c1 1)])) (
 fun x c8 => match x with
 | .normal =>
  .ret .ret [tt]
 | .exit i =>
  if i = 0 then
   .ret .ret [tt]
  else
  .fail
 | .ret =>
  .ret .ret [(g c8 0)])
theorem t99_eq (v900 v901 v902 : AVal) : afun cx 99 [v900, v901, v902] = t99 v900 v901 v902 := by kernel_rfl
def t100 (v900 v901 : AVal) : IT :=
 .cells 4 v900 fun c0 =>
 .load none v901 fun v1 =>
 .op (.int .eql) [(g c0 0), v1] fun v2 =>
 .ret .ret [v2]
theorem t100_eq (v900 v901 : AVal) : afun cx 100 [v900, v901] = t100 v900 v901 := by kernel_rfl
def t101 (v900 v901 v902 : AVal) : IT :=
 .loop 2 [(I 0)] (fun c0 =>
  .call 34 [v900] fun v1 =>
  .op (.int .gtr) [v1, (I 1)] fun v2 =>
  .cnd v2 (
   .call 33 [v900] fun v3 =>
   .callv v901 [v3] fun v4 =>
   .op (.un .not) [v4] fun v5 =>
   .cnd v5 (
    .op (.int .add) [(g c0 0), (I 1)] fun v6 =>
    .call 93 [v900] fun v7 =>
    .callv v902 [v7] fun v8 =>
    .cnd v8 (
     .ret (.exit 0) [v6]) (
     .ret .normal [v6])) (
    .ret (.exit 0) [(g c0 0)])) (
   .ret (.exit 0) [(g c0 0)])) (
 fun x c9 => match x with
 | .normal =>
  .ret .ret [(g c9 0)]
 | .exit i =>
  if i = 0 then
   .ret .ret [(g c9 0)]
  else
  .fail
 | .ret =>
  .ret .ret [(I 0)])
theorem t101_eq (v900 v901 v902 : AVal) : afun cx 101 [v900, v901, v902] = t101 v900 v901 v902 := by kernel_rfl
def t102 (v900 v901 : AVal) : IT :=
 .cells 4 v900 fun c0 =>
 .load none v901 fun v1 =>
 .call 98 [(.agg [(g c0 0), (g c0 1), (g c0 2), (g c0 3)]), v1] fun v2 =>
 .ret .ret [v2]
theorem t102_eq (v900 v901 : AVal) : afun cx 102 [v900, v901] = t102 v900 v901 := by kernel_rfl
def t103 (v900 : AVal) : IT :=
 .cells 4 v900 fun c0 =>
 .ret .ret [ff]
theorem t103_eq (v900 : AVal) : afun cx 103 [v900] = t103 v900 := by kernel_rfl
def t104 (v900 v901 : AVal) : IT :=
 .cells 4 v900 fun c0 =>
 .op (.int .neq) [(g c0 1), (I 1)] fun v1 =>
 .cnd v1 (
  .ret .ret [tt]) (
  .pcall 36 [(g c0 2)] fun v2 =>
  .op (.un .not) [v2] fun v3 =>
  .cnd v3 (
   .ret .ret [tt]) (
   .load none v901 fun v4 =>
   .op (.str .eql) [(g c0 2), v4] fun v5 =>
   .ret .ret [v5]))
theorem t104_eq (v900 v901 : AVal) : afun cx 104 [v900, v901] = t104 v900 v901 := by kernel_rfl
def t105 (v900 v901 : AVal) : IT :=
 .cells 4 v900 fun c0 =>
 .load none v901 fun v1 =>
 .call 98 [(.agg [(g c0 0), (g c0 1), (g c0 2), (g c0 3)]), v1] fun v2 =>
 .ret .ret [v2]
theorem t105_eq (v900 v901 : AVal) : afun cx 105 [v900, v901] = t105 v900 v901 := by kernel_rfl
def t106 (v900 v901 : AVal) : IT :=
 .call 34 [v900] fun v0 =>
 .op (.int .sub) [v0, (I 1)] fun v1 =>
 .loop 2 [(I 0), v1] (fun c2 =>
  .op (.int .geq) [(g c2 1), (I 0)] fun v3 =>
  .cnd v3 (
   .op .nonnil [v900] fun v4 =>
   .op (.faddr 0) [v4] fun v5 =>
   .load none v5 fun v6 =>
   .op (.eaddr 4) [v6, (g c2 1)] fun v7 =>
   .load (some 4) v7 fun v8 =>
   .callv v901 [v8] fun v9 =>
   .cnd v9 (
    .ret .ret [(g c2 1), (g c2 1)]) (
    .op (.int .sub) [(g c2 1), (I 1)] fun v10 =>
    .ret .normal [(g c2 0), v10])) (
   .ret (.exit 0) [(g c2 0), (g c2 1)])) (
 fun x c11 => match x with
 | .normal =>
  .ret .ret [(I (-1))]
 | .exit i =>
  if i = 0 then
   .ret .ret [(I (-1))]
  else
  .fail
 | .ret =>
  .ret .ret [(g c11 0)])
theorem t106_eq (v900 v901 : AVal) : afun cx 106 [v900, v901] = t106 v900 v901 := by kernel_rfl
def t107 (v900 v901 : AVal) : IT :=
 .cells 4 v900 fun c0 =>
 .load none v901 fun v1 =>
 .op (.mksl 1) [v1] fun v2 =>
 .call 98 [(.agg [(g c0 0), (g c0 1), (g c0 2), (g c0 3)]), v2] fun v3 =>
 .ret .ret [v3]
theorem t107_eq (v900 v901 : AVal) : afun cx 107 [v900, v901] = t107 v900 v901 := by kernel_rfl
def t108 (v900 v901 : AVal) : IT :=
 .cells 4 v900 fun c0 =>
 .load none v901 fun v1 =>
 .op (.int .eql) [(g c0 0), v1] fun v2 =>
 .ret .ret [v2]
theorem t108_eq (v900 v901 : AVal) : afun cx 108 [v900, v901] = t108 v900 v901 := by kernel_rfl
def t109 (v900 v901 : AVal) : IT :=
 .op (.str .eql) [v901, (S [])] fun v0 =>
 .cnd v0 (
  .ret .ret [ff]) (
  .pcall 157 [v901, (.int .u8 32)] fun v1 =>
  .cnd v1 (
   .ret .ret [ff]) (
   .loop 5 [ff, (I 0), (I 0)] (fun c2 =>
    .op (.len true) [v900] fun v3 =>
    .op (.int .leq) [(g c2 2), v3] fun v4 =>
    .cnd v4 (
     .op (.len true) [v900] fun v5 =>
     .op (.int .eql) [(g c2 2), v5] fun v6 =>
     .cnd v6 (
      .op (.slc 0 true true true) [v900, (g c2 1), (g c2 2)] fun v7 =>
      .op (.str .eql) [v7, v901] fun v8 =>
      .cnd v8 (
       .ret .ret [tt, (g c2 1), (g c2 2)]) (
       .op (.int .add) [(g c2 2), (I 1)] fun v9 =>
       .op (.int .add) [(g c2 2), (I 1)] fun v10 =>
       .ret .normal [(g c2 0), v9, v10])) (
      .op .sidx [v900, (g c2 2)] fun v11 =>
      .op (.int .eql) [v11, (.int .u8 32)] fun v12 =>
      .cnd v12 (
       .op (.slc 0 true true true) [v900, (g c2 1), (g c2 2)] fun v13 =>
       .op (.str .eql) [v13, v901] fun v14 =>
       .cnd v14 (
        .ret .ret [tt, (g c2 1), (g c2 2)]) (
        .op (.int .add) [(g c2 2), (I 1)] fun v15 =>
        .op (.int .add) [(g c2 2), (I 1)] fun v16 =>
        .ret .normal [(g c2 0), v15, v16])) (
       .op (.int .add) [(g c2 2), (I 1)] fun v17 =>
       .ret .normal [(g c2 0), (g c2 1), v17]))) (
     .ret (.exit 0) [(g c2 0), (g c2 1), (g c2 2)])) (
   fun x c18 => match x with
   | .normal =>
    .ret .ret [ff]
   | .exit i =>
    if i = 0 then
     .ret .ret [ff]
    else
    .fail
   | .ret =>
    .ret .ret [(g c18 0)])))
theorem t109_eq (v900 v901 : AVal) : afun cx 109 [v900, v901] = t109 v900 v901 := by kernel_rfl
def t110 (v900 v901 : AVal) : IT :=
 .op (.len false) [v900] fun v0 =>
 .loop 2 [(I 0), (I 0)] (fun c1 =>
  .op (.int .lss) [(g c1 1), v0] fun v2 =>
  .cnd v2 (
   .op (.eaddr 3) [v900, (g c1 1)] fun v3 =>
   .load (some 3) v3 fun v4 =>
   .callv v901 [v4] fun v5 =>
   .cnd v5 (
    .ret .ret [(g c1 1), (g c1 1)]) (
    .op (.int .add) [(g c1 1), (I 1)] fun v6 =>
    .ret .normal [(g c1 0), v6])) (
   .ret (.exit 0) [(g c1 0), (g c1 1)])) (
 fun x c7 => match x with
 | .normal =>
  .ret .ret [(I (-1))]
 | .exit i =>
  if i = 0 then
   .ret .ret [(I (-1))]
  else
  .fail
 | .ret =>
  .ret .ret [(g c7 0)])
theorem t110_eq (v900 v901 : AVal) : afun cx 110 [v900, v901] = t110 v900 v901 := by kernel_rfl
def t111 (v900 : AVal) : IT :=
 .cells 3 v900 fun c0 =>
 .op (.int .eql) [(g c0 0), (I 0)] fun v1 =>
 .cnd v1 (
  .op (.str .eql) [(g c0 1), (S [101,110,99,111,100,105,110,103])] fun v2 =>
  .ret .ret [v2]) (
  .ret .ret [ff])
theorem t111_eq (v900 : AVal) : afun cx 111 [v900] = t111 v900 := by kernel_rfl
def t112 (v900 v901 : AVal) : IT :=
 .pcall 158 [v900] fun v0 =>
 .pcall 158 [v901] fun v1 =>
 .op (.str .eql) [v0, v1] fun v2 =>
 .ret .ret [v2]
theorem t112_eq (v900 v901 : AVal) : afun cx 112 [v900, v901] = t112 v900 v901 := by kernel_rfl
def t113 (v900 : AVal) : IT :=
 .loop 3 [.slnil, (I 0)] (fun c0 =>
  .op (.len true) [v900] fun v1 =>
  .op (.int .lss) [(g c0 1), v1] fun v2 =>
  .cnd v2 (
   .op .sidx [v900, (g c0 1)] fun v3 =>
   .pcall 159 [v3] fun v4 =>
   .cnd v4 (
    .op (.int .add) [v3, (.int .u8 32)] fun v5 =>
    .op (.mksl 1) [v5] fun v6 =>
    .op (.append 1 1) [(g c0 0), v6] fun v7 =>
    .op (.int .add) [(g c0 1), (I 1)] fun v8 =>
    .ret .normal [v7, v8]) (
    .op (.mksl 1) [v3] fun v9 =>
    .op (.append 1 1) [(g c0 0), v9] fun v10 =>
    .op (.int .add) [(g c0 1), (I 1)] fun v11 =>
    .ret .normal [v10, v11])) (
   .ret (.exit 0) [(g c0 0), (g c0 1)])) (
 fun x c12 => match x with
 | .normal =>
  .frz (g c12 0) fun v13 =>
  .op .b2s [v13] fun v14 =>
  .ret .ret [v14]
 | .exit i =>
  if i = 0 then
   .frz (g c12 0) fun v15 =>
   .op .b2s [v15] fun v16 =>
   .ret .ret [v16]
  else
  .fail
 | .ret =>
  .ret .ret [(S [])])
theorem t113_eq (v900 : AVal) : afun cx 113 [v900] = t113 v900 := by kernel_rfl
def t114 (v900 v901 : AVal) : IT :=
 .call 110 [v900, v901] fun v0 =>
 .op (.int .geq) [v0, (I 0)] fun v1 =>
 .ret .ret [v1]
theorem t114_eq (v900 v901 : AVal) : afun cx 114 [v900, v901] = t114 v900 v901 := by kernel_rfl
def t115 (v900 : AVal) : IT :=
 .cells 3 v900 fun c0 =>
 .op (.str .eql) [(g c0 1), (S [99,111,108,111,114])] fun v1 =>
 .cnd v1 (
  .ret .ret [tt]) (
  .op (.str .eql) [(g c0 1), (S [102,97,99,101])] fun v2 =>
  .cnd v2 (
   .ret .ret [tt]) (
   .op (.str .eql) [(g c0 1), (S [115,105,122,101])] fun v3 =>
   .ret .ret [v3]))
theorem t115_eq (v900 : AVal) : afun cx 115 [v900] = t115 v900 := by kernel_rfl
def t116 (v900 v901 : AVal) : IT :=
 .call 160 [v901] fun v0 =>
 .op (.len false) [v0] fun v1 =>
 .loop 2 [(S []), (I 0)] (fun c2 =>
  .op (.int .lss) [(g c2 1), v1] fun v3 =>
  .cnd v3 (
   .op (.eaddr 1) [v0, (g c2 1)] fun v4 =>
   .load none v4 fun v5 =>
   .pcall 158 [v5] fun v6 =>
   .op (.str .eql) [v6, v900] fun v7 =>
   .cnd v7 (
    .ret .ret [v5, (g c2 1)]) (
    .op (.int .add) [(g c2 1), (I 1)] fun v8 =>
    .ret .normal [(g c2 0), v8])) (
   .ret (.exit 0) [(g c2 0), (g c2 1)])) (
 fun x c9 => match x with
 | .normal =>
  .ret .ret [v900]
 | .exit i =>
  if i = 0 then
   .ret .ret [v900]
  else
  .fail
 | .ret =>
  .ret .ret [(g c9 0)])
theorem t116_eq (v900 v901 : AVal) : afun cx 116 [v900, v901] = t116 v900 v901 := by kernel_rfl
def t117 (v900 v901 : AVal) : IT :=
 .loop 3 [(S []), (I 0), (I 0)] (fun c0 =>
  .op (.len true) [v900] fun v1 =>
  .op (.int .leq) [(g c0 2), v1] fun v2 =>
  .cnd v2 (
   .op (.len true) [v900] fun v3 =>
   .op (.int .eql) [(g c0 2), v3] fun v4 =>
   .cnd v4 (
    .op (.slc 0 true true true) [v900, (g c0 1), (g c0 2)] fun v5 =>
    .pcall 113 [v5] fun v6 =>
    .op (.str .eql) [v6, v901] fun v7 =>
    .cnd v7 (
     .op (.slc 0 true true true) [v900, (g c0 1), (g c0 2)] fun v8 =>
     .ret .ret [v8, (g c0 1), (g c0 2)]) (
     .op (.int .add) [(g c0 2), (I 1)] fun v9 =>
     .op (.int .add) [(g c0 2), (I 1)] fun v10 =>
     .ret .normal [(g c0 0), v9, v10])) (
    .op .sidx [v900, (g c0 2)] fun v11 =>
    .op (.int .eql) [v11, (.int .u8 32)] fun v12 =>
    .cnd v12 (
     .op (.slc 0 true true true) [v900, (g c0 1), (g c0 2)] fun v13 =>
     .pcall 113 [v13] fun v14 =>
     .op (.str .eql) [v14, v901] fun v15 =>
     .cnd v15 (
      .op (.slc 0 true true true) [v900, (g c0 1), (g c0 2)] fun v16 =>
      .ret .ret [v16, (g c0 1), (g c0 2)]) (
      .op (.int .add) [(g c0 2), (I 1)] fun v17 =>
      .op (.int .add) [(g c0 2), (I 1)] fun v18 =>
      .ret .normal [(g c0 0), v17, v18])) (
     .op (.int .add) [(g c0 2), (I 1)] fun v19 =>
     .ret .normal [(g c0 0), (g c0 1), v19]))) (
   .ret (.exit 0) [(g c0 0), (g c0 1), (g c0 2)])) (
 fun x c20 => match x with
 | .normal =>
  .ret .ret [v901]
 | .exit i =>
  if i = 0 then
   .ret .ret [v901]
  else
  .fail
 | .ret =>
  .ret .ret [(g c20 0)])
theorem t117_eq (v900 v901 : AVal) : afun cx 117 [v900, v901] = t117 v900 v901 := by kernel_rfl
end Go.Am
