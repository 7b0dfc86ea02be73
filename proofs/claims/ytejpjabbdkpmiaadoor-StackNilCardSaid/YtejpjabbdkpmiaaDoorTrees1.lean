/-
  The trees of the functions, written by a program; each is held against the code by the kernel. No law is claimed here.
-/
import Derived.Test.YtejpjabbdkpmiaaDoorCtx
import Derived.KernelRfl
namespace Go.Am
open Go
set_option linter.unusedVariables false
def t2 : IT :=
 .call 1 [] fun v0 =>
 .ret .ret [(.tuple [])]
theorem t2_eq : afun cx 2 [] = t2  := by kernel_rfl
def t3 (v900 v901 v902 v903 : AVal) : IT :=
 .call 21 [v900] fun v0 =>
 .op (.un .not) [v0] fun v1 =>
 .cnd v1 (
  .pcall 23 [] fun v2 =>
  .ret .ret [v2]) (
  .call 22 [v902] fun v3 =>
  .op (.un .not) [v3] fun v4 =>
  .cnd v4 (
   .pcall 23 [] fun v5 =>
   .ret .ret [v5]) (
   .call 24 [v900] fun v6 =>
   .call 25 [v6, v901, v902] fun v7 =>
   .call 26 [v900, v901, v902] fun v8 =>
   .op (.beq false) [v7, v8] fun v9 =>
   .cnd v9 (
    .call 27 [v6, v901, v903] fun v10 =>
    .call 28 [v900, v901, v903] fun v11 =>
    .op (.beq false) [v10, v11] fun v12 =>
    .cnd v12 (
     .pcall 23 [] fun v13 =>
     .ret .ret [v13]) (
     .ret .ret [ff])) (
    .ret .ret [ff])))
theorem t3_eq (v900 v901 v902 v903 : AVal) : afun cx 3 [v900, v901, v902, v903] = t3 v900 v901 v902 v903 := by kernel_rfl
def t4 (v900 v901 : AVal) : IT :=
 .call 21 [v900] fun v0 =>
 .op (.un .not) [v0] fun v1 =>
 .cnd v1 (
  .pcall 23 [] fun v2 =>
  .ret .ret [v2]) (
  .call 22 [v901] fun v3 =>
  .op (.un .not) [v3] fun v4 =>
  .cnd v4 (
   .pcall 23 [] fun v5 =>
   .ret .ret [v5]) (
   .op (.len false) [v901] fun v6 =>
   .op (.int .gtr) [v6, (I 0)] fun v7 =>
   .cnd v7 (
    .op (.eaddr 1) [v901, (I 0)] fun v8 =>
    .load none v8 fun v9 =>
    .call 24 [v900] fun v10 =>
    .call 24 [v900] fun v11 =>
    .call 24 [v900] fun v12 =>
    .call 29 [v10, v901] fun v13 =>
    .call 30 [v11, v9] fun v14 =>
    .call 31 [v12, v901] fun v15 =>
    .call 33 [v10] fun v16 =>
    .call 32 [v16] fun v17 =>
    .call 33 [v11] fun v18 =>
    .cells 4 v17 fun c19 =>
    .cells 4 v18 fun c20 =>
    .call 34 [v10] fun v21 =>
    .op (.int .gtr) [v21, (I 1)] fun v22 =>
    .cnd v22 (
     .call 35 [(.agg [(g c19 0), (g c19 1), (g c19 2), (g c19 3)]), v901] fun v23 =>
     .op (.un .not) [v23] fun v24 =>
     .cnd v24 (
      .ret .ret [ff]) (
      .call 34 [v10] fun v25 =>
      .op (.len false) [v900] fun v26 =>
      .op (.int .gtr) [v25, v26] fun v27 =>
      .cnd v27 (
       .ret .ret [ff]) (
       .call 34 [v11] fun v28 =>
       .op (.int .gtr) [v28, (I 1)] fun v29 =>
       .cnd v29 (
        .op (.int .eql) [(g c20 1), (I 1)] fun v30 =>
        .cnd v30 (
         .op (.str .neq) [(g c20 2), v9] fun v31 =>
         .cnd v31 (
          .pcall 36 [(g c20 2)] fun v32 =>
          .cnd v32 (
           .ret .ret [ff]) (
           .call 34 [v12] fun v33 =>
           .op (.int .leq) [v33, (I 1)] fun v34 =>
           .cnd v34 (
            .pcall 23 [] fun v35 =>
            .ret .ret [v35]) (
            .call 34 [v12] fun v36 =>
            .op (.len false) [v900] fun v37 =>
            .op (.int .lss) [v36, v37] fun v38 =>
            .cnd v38 (
             .call 34 [v12] fun v39 =>
             .call 37 [v900, v39] fun v40 =>
             .call 35 [v40, v901] fun v41 =>
             .cnd v41 (
              .pcall 23 [] fun v42 =>
              .ret .ret [v42]) (
              .ret .ret [ff])) (
             .ret .ret [ff])))) (
          .call 34 [v12] fun v43 =>
          .op (.int .leq) [v43, (I 1)] fun v44 =>
          .cnd v44 (
           .pcall 23 [] fun v45 =>
           .ret .ret [v45]) (
           .call 34 [v12] fun v46 =>
           .op (.len false) [v900] fun v47 =>
           .op (.int .lss) [v46, v47] fun v48 =>
           .cnd v48 (
            .call 34 [v12] fun v49 =>
            .call 37 [v900, v49] fun v50 =>
            .call 35 [v50, v901] fun v51 =>
            .cnd v51 (
             .pcall 23 [] fun v52 =>
             .ret .ret [v52]) (
             .ret .ret [ff])) (
            .ret .ret [ff])))) (
         .call 34 [v12] fun v53 =>
         .op (.int .leq) [v53, (I 1)] fun v54 =>
         .cnd v54 (
          .pcall 23 [] fun v55 =>
          .ret .ret [v55]) (
          .call 34 [v12] fun v56 =>
          .op (.len false) [v900] fun v57 =>
          .op (.int .lss) [v56, v57] fun v58 =>
          .cnd v58 (
           .call 34 [v12] fun v59 =>
           .call 37 [v900, v59] fun v60 =>
           .call 35 [v60, v901] fun v61 =>
           .cnd v61 (
            .pcall 23 [] fun v62 =>
            .ret .ret [v62]) (
            .ret .ret [ff])) (
           .ret .ret [ff])))) (
        .call 34 [v12] fun v63 =>
        .op (.int .leq) [v63, (I 1)] fun v64 =>
        .cnd v64 (
         .pcall 23 [] fun v65 =>
         .ret .ret [v65]) (
         .call 34 [v12] fun v66 =>
         .op (.len false) [v900] fun v67 =>
         .op (.int .lss) [v66, v67] fun v68 =>
         .cnd v68 (
          .call 34 [v12] fun v69 =>
          .call 37 [v900, v69] fun v70 =>
          .call 35 [v70, v901] fun v71 =>
          .cnd v71 (
           .pcall 23 [] fun v72 =>
           .ret .ret [v72]) (
           .ret .ret [ff])) (
          .ret .ret [ff])))))) (
     .call 34 [v10] fun v73 =>
     .op (.len false) [v900] fun v74 =>
     .op (.int .gtr) [v73, v74] fun v75 =>
     .cnd v75 (
      .ret .ret [ff]) (
      .call 34 [v11] fun v76 =>
      .op (.int .gtr) [v76, (I 1)] fun v77 =>
      .cnd v77 (
       .op (.int .eql) [(g c20 1), (I 1)] fun v78 =>
       .cnd v78 (
        .op (.str .neq) [(g c20 2), v9] fun v79 =>
        .cnd v79 (
         .pcall 36 [(g c20 2)] fun v80 =>
         .cnd v80 (
          .ret .ret [ff]) (
          .call 34 [v12] fun v81 =>
          .op (.int .leq) [v81, (I 1)] fun v82 =>
          .cnd v82 (
           .pcall 23 [] fun v83 =>
           .ret .ret [v83]) (
           .call 34 [v12] fun v84 =>
           .op (.len false) [v900] fun v85 =>
           .op (.int .lss) [v84, v85] fun v86 =>
           .cnd v86 (
            .call 34 [v12] fun v87 =>
            .call 37 [v900, v87] fun v88 =>
            .call 35 [v88, v901] fun v89 =>
            .cnd v89 (
             .pcall 23 [] fun v90 =>
             .ret .ret [v90]) (
             .ret .ret [ff])) (
            .ret .ret [ff])))) (
         .call 34 [v12] fun v91 =>
         .op (.int .leq) [v91, (I 1)] fun v92 =>
         .cnd v92 (
          .pcall 23 [] fun v93 =>
          .ret .ret [v93]) (
          .call 34 [v12] fun v94 =>
          .op (.len false) [v900] fun v95 =>
          .op (.int .lss) [v94, v95] fun v96 =>
          .cnd v96 (
           .call 34 [v12] fun v97 =>
           .call 37 [v900, v97] fun v98 =>
           .call 35 [v98, v901] fun v99 =>
           .cnd v99 (
            .pcall 23 [] fun v100 =>
            .ret .ret [v100]) (
            .ret .ret [ff])) (
           .ret .ret [ff])))) (
        .call 34 [v12] fun v101 =>
        .op (.int .leq) [v101, (I 1)] fun v102 =>
        .cnd v102 (
         .pcall 23 [] fun v103 =>
         .ret .ret [v103]) (
         .call 34 [v12] fun v104 =>
         .op (.len false) [v900] fun v105 =>
         .op (.int .lss) [v104, v105] fun v106 =>
         .cnd v106 (
          .call 34 [v12] fun v107 =>
          .call 37 [v900, v107] fun v108 =>
          .call 35 [v108, v901] fun v109 =>
          .cnd v109 (
           .pcall 23 [] fun v110 =>
           .ret .ret [v110]) (
           .ret .ret [ff])) (
          .ret .ret [ff])))) (
       .call 34 [v12] fun v111 =>
       .op (.int .leq) [v111, (I 1)] fun v112 =>
       .cnd v112 (
        .pcall 23 [] fun v113 =>
        .ret .ret [v113]) (
        .call 34 [v12] fun v114 =>
        .op (.len false) [v900] fun v115 =>
        .op (.int .lss) [v114, v115] fun v116 =>
        .cnd v116 (
         .call 34 [v12] fun v117 =>
         .call 37 [v900, v117] fun v118 =>
         .call 35 [v118, v901] fun v119 =>
         .cnd v119 (
          .pcall 23 [] fun v120 =>
          .ret .ret [v120]) (
          .ret .ret [ff])) (
         .ret .ret [ff])))))) (
    .call 24 [v900] fun v121 =>
    .call 24 [v900] fun v122 =>
    .call 24 [v900] fun v123 =>
    .call 29 [v121, v901] fun v124 =>
    .call 30 [v122, (S [])] fun v125 =>
    .call 31 [v123, v901] fun v126 =>
    .call 33 [v121] fun v127 =>
    .call 32 [v127] fun v128 =>
    .call 33 [v122] fun v129 =>
    .cells 4 v128 fun c130 =>
    .cells 4 v129 fun c131 =>
    .call 34 [v121] fun v132 =>
    .op (.int .gtr) [v132, (I 1)] fun v133 =>
    .cnd v133 (
     .call 35 [(.agg [(g c130 0), (g c130 1), (g c130 2), (g c130 3)]), v901] fun v134 =>
     .op (.un .not) [v134] fun v135 =>
     .cnd v135 (
      .ret .ret [ff]) (
      .call 34 [v121] fun v136 =>
      .op (.len false) [v900] fun v137 =>
      .op (.int .gtr) [v136, v137] fun v138 =>
      .cnd v138 (
       .ret .ret [ff]) (
       .call 34 [v122] fun v139 =>
       .op (.int .gtr) [v139, (I 1)] fun v140 =>
       .cnd v140 (
        .op (.int .eql) [(g c131 1), (I 1)] fun v141 =>
        .cnd v141 (
         .op (.str .neq) [(g c131 2), (S [])] fun v142 =>
         .cnd v142 (
          .pcall 36 [(g c131 2)] fun v143 =>
          .cnd v143 (
           .ret .ret [ff]) (
           .call 34 [v123] fun v144 =>
           .op (.int .leq) [v144, (I 1)] fun v145 =>
           .cnd v145 (
            .pcall 23 [] fun v146 =>
            .ret .ret [v146]) (
            .call 34 [v123] fun v147 =>
            .op (.len false) [v900] fun v148 =>
            .op (.int .lss) [v147, v148] fun v149 =>
            .cnd v149 (
             .call 34 [v123] fun v150 =>
             .call 37 [v900, v150] fun v151 =>
             .call 35 [v151, v901] fun v152 =>
             .cnd v152 (
              .pcall 23 [] fun v153 =>
              .ret .ret [v153]) (
              .ret .ret [ff])) (
             .ret .ret [ff])))) (
          .call 34 [v123] fun v154 =>
          .op (.int .leq) [v154, (I 1)] fun v155 =>
          .cnd v155 (
           .pcall 23 [] fun v156 =>
           .ret .ret [v156]) (
           .call 34 [v123] fun v157 =>
           .op (.len false) [v900] fun v158 =>
           .op (.int .lss) [v157, v158] fun v159 =>
           .cnd v159 (
            .call 34 [v123] fun v160 =>
            .call 37 [v900, v160] fun v161 =>
            .call 35 [v161, v901] fun v162 =>
            .cnd v162 (
             .pcall 23 [] fun v163 =>
             .ret .ret [v163]) (
             .ret .ret [ff])) (
            .ret .ret [ff])))) (
         .call 34 [v123] fun v164 =>
         .op (.int .leq) [v164, (I 1)] fun v165 =>
         .cnd v165 (
          .pcall 23 [] fun v166 =>
          .ret .ret [v166]) (
          .call 34 [v123] fun v167 =>
          .op (.len false) [v900] fun v168 =>
          .op (.int .lss) [v167, v168] fun v169 =>
          .cnd v169 (
           .call 34 [v123] fun v170 =>
           .call 37 [v900, v170] fun v171 =>
           .call 35 [v171, v901] fun v172 =>
           .cnd v172 (
            .pcall 23 [] fun v173 =>
            .ret .ret [v173]) (
            .ret .ret [ff])) (
           .ret .ret [ff])))) (
        .call 34 [v123] fun v174 =>
        .op (.int .leq) [v174, (I 1)] fun v175 =>
        .cnd v175 (
         .pcall 23 [] fun v176 =>
         .ret .ret [v176]) (
         .call 34 [v123] fun v177 =>
         .op (.len false) [v900] fun v178 =>
         .op (.int .lss) [v177, v178] fun v179 =>
         .cnd v179 (
          .call 34 [v123] fun v180 =>
          .call 37 [v900, v180] fun v181 =>
          .call 35 [v181, v901] fun v182 =>
          .cnd v182 (
           .pcall 23 [] fun v183 =>
           .ret .ret [v183]) (
           .ret .ret [ff])) (
          .ret .ret [ff])))))) (
     .call 34 [v121] fun v184 =>
     .op (.len false) [v900] fun v185 =>
     .op (.int .gtr) [v184, v185] fun v186 =>
     .cnd v186 (
      .ret .ret [ff]) (
      .call 34 [v122] fun v187 =>
      .op (.int .gtr) [v187, (I 1)] fun v188 =>
      .cnd v188 (
       .op (.int .eql) [(g c131 1), (I 1)] fun v189 =>
       .cnd v189 (
        .op (.str .neq) [(g c131 2), (S [])] fun v190 =>
        .cnd v190 (
         .pcall 36 [(g c131 2)] fun v191 =>
         .cnd v191 (
          .ret .ret [ff]) (
          .call 34 [v123] fun v192 =>
          .op (.int .leq) [v192, (I 1)] fun v193 =>
          .cnd v193 (
           .pcall 23 [] fun v194 =>
           .ret .ret [v194]) (
           .call 34 [v123] fun v195 =>
           .op (.len false) [v900] fun v196 =>
           .op (.int .lss) [v195, v196] fun v197 =>
           .cnd v197 (
            .call 34 [v123] fun v198 =>
            .call 37 [v900, v198] fun v199 =>
            .call 35 [v199, v901] fun v200 =>
            .cnd v200 (
             .pcall 23 [] fun v201 =>
             .ret .ret [v201]) (
             .ret .ret [ff])) (
            .ret .ret [ff])))) (
         .call 34 [v123] fun v202 =>
         .op (.int .leq) [v202, (I 1)] fun v203 =>
         .cnd v203 (
          .pcall 23 [] fun v204 =>
          .ret .ret [v204]) (
          .call 34 [v123] fun v205 =>
          .op (.len false) [v900] fun v206 =>
          .op (.int .lss) [v205, v206] fun v207 =>
          .cnd v207 (
           .call 34 [v123] fun v208 =>
           .call 37 [v900, v208] fun v209 =>
           .call 35 [v209, v901] fun v210 =>
           .cnd v210 (
            .pcall 23 [] fun v211 =>
            .ret .ret [v211]) (
            .ret .ret [ff])) (
           .ret .ret [ff])))) (
        .call 34 [v123] fun v212 =>
        .op (.int .leq) [v212, (I 1)] fun v213 =>
        .cnd v213 (
         .pcall 23 [] fun v214 =>
         .ret .ret [v214]) (
         .call 34 [v123] fun v215 =>
         .op (.len false) [v900] fun v216 =>
         .op (.int .lss) [v215, v216] fun v217 =>
         .cnd v217 (
          .call 34 [v123] fun v218 =>
          .call 37 [v900, v218] fun v219 =>
          .call 35 [v219, v901] fun v220 =>
          .cnd v220 (
           .pcall 23 [] fun v221 =>
           .ret .ret [v221]) (
           .ret .ret [ff])) (
          .ret .ret [ff])))) (
       .call 34 [v123] fun v222 =>
       .op (.int .leq) [v222, (I 1)] fun v223 =>
       .cnd v223 (
        .pcall 23 [] fun v224 =>
        .ret .ret [v224]) (
        .call 34 [v123] fun v225 =>
        .op (.len false) [v900] fun v226 =>
        .op (.int .lss) [v225, v226] fun v227 =>
        .cnd v227 (
         .call 34 [v123] fun v228 =>
         .call 37 [v900, v228] fun v229 =>
         .call 35 [v229, v901] fun v230 =>
         .cnd v230 (
          .pcall 23 [] fun v231 =>
          .ret .ret [v231]) (
          .ret .ret [ff])) (
         .ret .ret [ff]))))))))
theorem t4_eq (v900 v901 : AVal) : afun cx 4 [v900, v901] = t4 v900 v901 := by kernel_rfl
def t5 (v900 v901 v902 : AVal) : IT :=
 .call 21 [v900] fun v0 =>
 .op (.un .not) [v0] fun v1 =>
 .cnd v1 (
  .pcall 23 [] fun v2 =>
  .ret .ret [v2]) (
  .op (.len true) [v901] fun v3 =>
  .op (.int .gtr) [v3, (I 60)] fun v4 =>
  .cnd v4 (
   .pcall 23 [] fun v5 =>
   .ret .ret [v5]) (
   .call 24 [v900] fun v6 =>
   .alloc 6 (.agg [ff, ff, ff, ff, ff, ff]) fun v7 =>
   .alloc 6 (.agg [ff, ff, ff, ff, ff, ff]) fun v8 =>
   .loop 6 [(I 1)] (fun c9 =>
    .op (.int .leq) [(g c9 0), (I 5)] fun v10 =>
    .cnd v10 (
     .op (.mksl 1) [v901] fun v11 =>
     .call 25 [v6, (g c9 0), v11] fun v12 =>
     .op (.aaddr 6 1) [v7, (g c9 0)] fun v13 =>
     .store 1 v13 v12 (
     .call 27 [v6, (g c9 0), v902] fun v14 =>
     .op (.aaddr 6 1) [v8, (g c9 0)] fun v15 =>
     .store 1 v15 v14 (
     .op (.int .add) [(g c9 0), (I 1)] fun v16 =>
     .ret .normal [v16]))) (
     .ret (.exit 0) [(g c9 0)])) (
   fun x c17 => match x with
   | .normal =>
    .load (some 6) v7 fun v18 =>
    .call 38 [v18] fun v19 =>
    .cnd v19 (
     .load (some 6) v8 fun v20 =>
     .call 38 [v20] fun v21 =>
     .cnd v21 (
      .op (.aaddr 6 1) [v7, (I 4)] fun v22 =>
      .load none v22 fun v23 =>
      .op (.un .not) [v23] fun v24 =>
      .cnd v24 (
       .op (.aaddr 6 1) [v8, (I 4)] fun v25 =>
       .load none v25 fun v26 =>
       .op (.un .not) [v26] fun v27 =>
       .cnd v27 (
        .pcall 23 [] fun v28 =>
        .ret .ret [v28]) (
        .call 40 [v6, v902] fun v29 =>
        .op (.int .geq) [v29, (I 0)] fun v30 =>
        .cnd v30 (
         .pcall 23 [] fun v31 =>
         .ret .ret [v31]) (
         .ret .ret [ff]))) (
       .call 39 [v6, v901] fun v32 =>
       .op (.int .geq) [v32, (I 0)] fun v33 =>
       .cnd v33 (
        .op (.aaddr 6 1) [v8, (I 4)] fun v34 =>
        .load none v34 fun v35 =>
        .op (.un .not) [v35] fun v36 =>
        .cnd v36 (
         .pcall 23 [] fun v37 =>
         .ret .ret [v37]) (
         .call 40 [v6, v902] fun v38 =>
         .op (.int .geq) [v38, (I 0)] fun v39 =>
         .cnd v39 (
          .pcall 23 [] fun v40 =>
          .ret .ret [v40]) (
          .ret .ret [ff]))) (
        .ret .ret [ff]))) (
      .ret .ret [ff])) (
     .ret .ret [ff])
   | .exit i =>
    if i = 0 then
     .load (some 6) v7 fun v41 =>
     .call 38 [v41] fun v42 =>
     .cnd v42 (
      .load (some 6) v8 fun v43 =>
      .call 38 [v43] fun v44 =>
      .cnd v44 (
       .op (.aaddr 6 1) [v7, (I 4)] fun v45 =>
       .load none v45 fun v46 =>
       .op (.un .not) [v46] fun v47 =>
       .cnd v47 (
        .op (.aaddr 6 1) [v8, (I 4)] fun v48 =>
        .load none v48 fun v49 =>
        .op (.un .not) [v49] fun v50 =>
        .cnd v50 (
         .pcall 23 [] fun v51 =>
         .ret .ret [v51]) (
         .call 40 [v6, v902] fun v52 =>
         .op (.int .geq) [v52, (I 0)] fun v53 =>
         .cnd v53 (
          .pcall 23 [] fun v54 =>
          .ret .ret [v54]) (
          .ret .ret [ff]))) (
        .call 39 [v6, v901] fun v55 =>
        .op (.int .geq) [v55, (I 0)] fun v56 =>
        .cnd v56 (
         .op (.aaddr 6 1) [v8, (I 4)] fun v57 =>
         .load none v57 fun v58 =>
         .op (.un .not) [v58] fun v59 =>
         .cnd v59 (
          .pcall 23 [] fun v60 =>
          .ret .ret [v60]) (
          .call 40 [v6, v902] fun v61 =>
          .op (.int .geq) [v61, (I 0)] fun v62 =>
          .cnd v62 (
           .pcall 23 [] fun v63 =>
           .ret .ret [v63]) (
           .ret .ret [ff]))) (
         .ret .ret [ff]))) (
       .ret .ret [ff])) (
      .ret .ret [ff])
    else
    .fail
   | .ret =>
    .ret .ret [ff])))
theorem t5_eq (v900 v901 v902 : AVal) : afun cx 5 [v900, v901, v902] = t5 v900 v901 v902 := by kernel_rfl
def t6 (v900 v901 v902 : AVal) : IT :=
 .op (.len true) [v901] fun v0 =>
 .op (.int .gtr) [v0, (I 200)] fun v1 =>
 .cnd v1 (
  .pcall 23 [] fun v2 =>
  .ret .ret [v2]) (
  .call 41 [v902] fun v3 =>
  .op (.un .not) [v3] fun v4 =>
  .cnd v4 (
   .pcall 23 [] fun v5 =>
   .ret .ret [v5]) (
   .pcall 42 [v900, v901] fun v6 =>
   .pcall 43 [v900, v901] fun v7 =>
   .op (.beq true) [v6, v7] fun v8 =>
   .cnd v8 (
    .ret .ret [ff]) (
    .pcall 44 [v900, v901] fun v9 =>
    .pcall 45 [v900, v901] fun v10 =>
    .op (.beq true) [v9, v10] fun v11 =>
    .cnd v11 (
     .ret .ret [ff]) (
     .call 46 [v900, v901, v902] fun v12 =>
     .call 47 [v900, v901, v902] fun v13 =>
     .op (.beq false) [v12, v13] fun v14 =>
     .cnd v14 (
      .pcall 23 [] fun v15 =>
      .ret .ret [v15]) (
      .ret .ret [ff])))))
theorem t6_eq (v900 v901 v902 : AVal) : afun cx 6 [v900, v901, v902] = t6 v900 v901 v902 := by kernel_rfl
def t7 (v900 v901 v902 v903 : AVal) : IT :=
 .call 21 [v900] fun v0 =>
 .op (.un .not) [v0] fun v1 =>
 .cnd v1 (
  .pcall 23 [] fun v2 =>
  .ret .ret [v2]) (
  .op (.len true) [v903] fun v3 =>
  .op (.int .gtr) [v3, (I 60)] fun v4 =>
  .cnd v4 (
   .pcall 23 [] fun v5 =>
   .ret .ret [v5]) (
   .call 24 [v900] fun v6 =>
   .call 48 [v6, v901] fun v7 =>
   .call 32 [v7] fun v8 =>
   .call 37 [v900, v901] fun v9 =>
   .op (.geq true [.i, .i, .s, .b]) [v8, v9] fun v10 =>
   .cnd v10 (
    .ret .ret [ff]) (
    .call 40 [v6, v902] fun v11 =>
    .call 49 [v900, v902] fun v12 =>
    .op (.int .neq) [v11, v12] fun v13 =>
    .cnd v13 (
     .ret .ret [ff]) (
     .call 39 [v6, v903] fun v14 =>
     .call 50 [v900, v903] fun v15 =>
     .op (.int .neq) [v14, v15] fun v16 =>
     .cnd v16 (
      .ret .ret [ff]) (
      .call 51 [v6, v902] fun v17 =>
      .call 52 [v900, v902] fun v18 =>
      .op (.int .eql) [v17, v18] fun v19 =>
      .cnd v19 (
       .call 34 [v6] fun v20 =>
       .op (.len false) [v900] fun v21 =>
       .op (.int .eql) [v20, v21] fun v22 =>
       .cnd v22 (
        .pcall 23 [] fun v23 =>
        .ret .ret [v23]) (
        .ret .ret [ff])) (
       .ret .ret [ff]))))))
theorem t7_eq (v900 v901 v902 v903 : AVal) : afun cx 7 [v900, v901, v902, v903] = t7 v900 v901 v902 v903 := by kernel_rfl
def t8 (v900 : AVal) : IT :=
 .cells 12 v900 fun c0 =>
 .op (.len true) [(g c0 1)] fun v1 =>
 .op (.int .gtr) [v1, (I 200)] fun v2 =>
 .cnd v2 (
  .pcall 23 [] fun v3 =>
  .ret .ret [v3]) (
  .call 41 [(g c0 8)] fun v4 =>
  .op (.un .not) [v4] fun v5 =>
  .cnd v5 (
   .pcall 23 [] fun v6 =>
   .ret .ret [v6]) (
   .call 53 [(.agg [(g c0 0), (g c0 1), (g c0 2), (g c0 3), (g c0 4), (g c0 5), (g c0 6), (g c0 7), (g c0 8), (g c0 9), (g c0 10), (g c0 11)])] fun v7 =>
   .call 54 [(.agg [(g c0 0), (g c0 1), (g c0 2), (g c0 3), (g c0 4), (g c0 5), (g c0 6), (g c0 7), (g c0 8), (g c0 9), (g c0 10), (g c0 11)])] fun v8 =>
   .op (.beq false) [v7, v8] fun v9 =>
   .cnd v9 (
    .pcall 23 [] fun v10 =>
    .ret .ret [v10]) (
    .ret .ret [ff])))
theorem t8_eq (v900 : AVal) : afun cx 8 [v900] = t8 v900 := by kernel_rfl
def t9 (v900 : AVal) : IT :=
 .op (.len true) [v900] fun v0 =>
 .op (.int .gtr) [v0, (I 200)] fun v1 =>
 .cnd v1 (
  .pcall 23 [] fun v2 =>
  .ret .ret [v2]) (
  .pcall 55 [v900] fun v3 =>
  .pcall 56 [v900] fun v4 =>
  .op (.beq true) [v3, v4] fun v5 =>
  .cnd v5 (
   .ret .ret [ff]) (
   .pcall 57 [v900] fun v6 =>
   .pcall 58 [v900] fun v7 =>
   .op (.beq true) [v6, v7] fun v8 =>
   .cnd v8 (
    .ret .ret [ff]) (
    .pcall 59 [v900] fun v9 =>
    .pcall 60 [v900] fun v10 =>
    .op (.beq true) [v9, v10] fun v11 =>
    .cnd v11 (
     .ret .ret [ff]) (
     .pcall 36 [v900] fun v12 =>
     .pcall 61 [v900] fun v13 =>
     .op (.beq false) [v12, v13] fun v14 =>
     .cnd v14 (
      .pcall 62 [v900] fun v15 =>
      .pcall 63 [v900] fun v16 =>
      .op (.beq false) [v15, v16] fun v17 =>
      .cnd v17 (
       .pcall 64 [v900] fun v18 =>
       .pcall 65 [v900] fun v19 =>
       .op (.str .eql) [v18, v19] fun v20 =>
       .cnd v20 (
        .pcall 23 [] fun v21 =>
        .ret .ret [v21]) (
        .ret .ret [ff])) (
       .ret .ret [ff])) (
      .ret .ret [ff])))))
theorem t9_eq (v900 : AVal) : afun cx 9 [v900] = t9 v900 := by kernel_rfl
def t10 (v900 : AVal) : IT :=
 .op (.len true) [v900] fun v0 =>
 .op (.int .gtr) [v0, (I 200)] fun v1 =>
 .cnd v1 (
  .pcall 23 [] fun v2 =>
  .ret .ret [v2]) (
  .pcall 42 [(I 1), v900] fun v3 =>
  .pcall 55 [v900] fun v4 =>
  .cnd v4 (
   .cnd v3 (
    .ret .ret [ff]) (
    .pcall 57 [v900] fun v5 =>
    .cnd v5 (
     .ret .ret [ff]) (
     .pcall 59 [v900] fun v6 =>
     .cnd v6 (
      .op (.un .not) [v3] fun v7 =>
      .cnd v7 (
       .ret .ret [ff]) (
       .pcall 36 [v900] fun v8 =>
       .op (.un .not) [v8] fun v9 =>
       .cnd v9 (
        .pcall 44 [(I 3), v900] fun v10 =>
        .op (.un .not) [v10] fun v11 =>
        .cnd v11 (
         .pcall 23 [] fun v12 =>
         .ret .ret [v12]) (
         .pcall 42 [(I 3), v900] fun v13 =>
         .cnd v13 (
          .pcall 23 [] fun v14 =>
          .ret .ret [v14]) (
          .ret .ret [ff]))) (
        .pcall 62 [v900] fun v15 =>
        .cnd v15 (
         .pcall 44 [(I 3), v900] fun v16 =>
         .op (.un .not) [v16] fun v17 =>
         .cnd v17 (
          .pcall 23 [] fun v18 =>
          .ret .ret [v18]) (
          .pcall 42 [(I 3), v900] fun v19 =>
          .cnd v19 (
           .pcall 23 [] fun v20 =>
           .ret .ret [v20]) (
           .ret .ret [ff]))) (
         .ret .ret [ff])))) (
      .pcall 57 [v900] fun v21 =>
      .cnd v21 (
       .op (.un .not) [v3] fun v22 =>
       .cnd v22 (
        .ret .ret [ff]) (
        .pcall 36 [v900] fun v23 =>
        .op (.un .not) [v23] fun v24 =>
        .cnd v24 (
         .pcall 44 [(I 3), v900] fun v25 =>
         .op (.un .not) [v25] fun v26 =>
         .cnd v26 (
          .pcall 23 [] fun v27 =>
          .ret .ret [v27]) (
          .pcall 42 [(I 3), v900] fun v28 =>
          .cnd v28 (
           .pcall 23 [] fun v29 =>
           .ret .ret [v29]) (
           .ret .ret [ff]))) (
         .pcall 62 [v900] fun v30 =>
         .cnd v30 (
          .pcall 44 [(I 3), v900] fun v31 =>
          .op (.un .not) [v31] fun v32 =>
          .cnd v32 (
           .pcall 23 [] fun v33 =>
           .ret .ret [v33]) (
           .pcall 42 [(I 3), v900] fun v34 =>
           .cnd v34 (
            .pcall 23 [] fun v35 =>
            .ret .ret [v35]) (
            .ret .ret [ff]))) (
          .ret .ret [ff])))) (
       .pcall 36 [v900] fun v36 =>
       .op (.un .not) [v36] fun v37 =>
       .cnd v37 (
        .pcall 44 [(I 3), v900] fun v38 =>
        .op (.un .not) [v38] fun v39 =>
        .cnd v39 (
         .pcall 23 [] fun v40 =>
         .ret .ret [v40]) (
         .pcall 42 [(I 3), v900] fun v41 =>
         .cnd v41 (
          .pcall 23 [] fun v42 =>
          .ret .ret [v42]) (
          .ret .ret [ff]))) (
        .pcall 62 [v900] fun v43 =>
        .cnd v43 (
         .pcall 44 [(I 3), v900] fun v44 =>
         .op (.un .not) [v44] fun v45 =>
         .cnd v45 (
          .pcall 23 [] fun v46 =>
          .ret .ret [v46]) (
          .pcall 42 [(I 3), v900] fun v47 =>
          .cnd v47 (
           .pcall 23 [] fun v48 =>
           .ret .ret [v48]) (
           .ret .ret [ff]))) (
         .ret .ret [ff]))))))) (
   .pcall 59 [v900] fun v49 =>
   .cnd v49 (
    .op (.un .not) [v3] fun v50 =>
    .cnd v50 (
     .ret .ret [ff]) (
     .pcall 36 [v900] fun v51 =>
     .op (.un .not) [v51] fun v52 =>
     .cnd v52 (
      .pcall 44 [(I 3), v900] fun v53 =>
      .op (.un .not) [v53] fun v54 =>
      .cnd v54 (
       .pcall 23 [] fun v55 =>
       .ret .ret [v55]) (
       .pcall 42 [(I 3), v900] fun v56 =>
       .cnd v56 (
        .pcall 23 [] fun v57 =>
        .ret .ret [v57]) (
        .ret .ret [ff]))) (
      .pcall 62 [v900] fun v58 =>
      .cnd v58 (
       .pcall 44 [(I 3), v900] fun v59 =>
       .op (.un .not) [v59] fun v60 =>
       .cnd v60 (
        .pcall 23 [] fun v61 =>
        .ret .ret [v61]) (
        .pcall 42 [(I 3), v900] fun v62 =>
        .cnd v62 (
         .pcall 23 [] fun v63 =>
         .ret .ret [v63]) (
         .ret .ret [ff]))) (
       .ret .ret [ff])))) (
    .pcall 57 [v900] fun v64 =>
    .cnd v64 (
     .op (.un .not) [v3] fun v65 =>
     .cnd v65 (
      .ret .ret [ff]) (
      .pcall 36 [v900] fun v66 =>
      .op (.un .not) [v66] fun v67 =>
      .cnd v67 (
       .pcall 44 [(I 3), v900] fun v68 =>
       .op (.un .not) [v68] fun v69 =>
       .cnd v69 (
        .pcall 23 [] fun v70 =>
        .ret .ret [v70]) (
        .pcall 42 [(I 3), v900] fun v71 =>
        .cnd v71 (
         .pcall 23 [] fun v72 =>
         .ret .ret [v72]) (
         .ret .ret [ff]))) (
       .pcall 62 [v900] fun v73 =>
       .cnd v73 (
        .pcall 44 [(I 3), v900] fun v74 =>
        .op (.un .not) [v74] fun v75 =>
        .cnd v75 (
         .pcall 23 [] fun v76 =>
         .ret .ret [v76]) (
         .pcall 42 [(I 3), v900] fun v77 =>
         .cnd v77 (
          .pcall 23 [] fun v78 =>
          .ret .ret [v78]) (
          .ret .ret [ff]))) (
        .ret .ret [ff])))) (
     .pcall 36 [v900] fun v79 =>
     .op (.un .not) [v79] fun v80 =>
     .cnd v80 (
      .pcall 44 [(I 3), v900] fun v81 =>
      .op (.un .not) [v81] fun v82 =>
      .cnd v82 (
       .pcall 23 [] fun v83 =>
       .ret .ret [v83]) (
       .pcall 42 [(I 3), v900] fun v84 =>
       .cnd v84 (
        .pcall 23 [] fun v85 =>
        .ret .ret [v85]) (
        .ret .ret [ff]))) (
      .pcall 62 [v900] fun v86 =>
      .cnd v86 (
       .pcall 44 [(I 3), v900] fun v87 =>
       .op (.un .not) [v87] fun v88 =>
       .cnd v88 (
        .pcall 23 [] fun v89 =>
        .ret .ret [v89]) (
        .pcall 42 [(I 3), v900] fun v90 =>
        .cnd v90 (
         .pcall 23 [] fun v91 =>
         .ret .ret [v91]) (
         .ret .ret [ff]))) (
       .ret .ret [ff]))))))
theorem t10_eq (v900 : AVal) : afun cx 10 [v900] = t10 v900 := by kernel_rfl
def t11 (v900 v901 v902 : AVal) : IT :=
 .cells 4 v901 fun c0 =>
 .call 21 [v900] fun v1 =>
 .op (.un .not) [v1] fun v2 =>
 .cnd v2 (
  .pcall 23 [] fun v3 =>
  .ret .ret [v3]) (
  .op (.len true) [(g c0 2)] fun v4 =>
  .op (.int .gtr) [v4, (I 60)] fun v5 =>
  .cnd v5 (
   .pcall 23 [] fun v6 =>
   .ret .ret [v6]) (
   .op (.len false) [v900] fun v7 =>
   .op (.int .eql) [v7, (I 0)] fun v8 =>
   .cnd v8 (
    .pcall 23 [] fun v9 =>
    .ret .ret [v9]) (
    .call 24 [v900] fun v10 =>
    .call 40 [v10, (g c0 0)] fun v11 =>
    .op (.int .geq) [v11, (I 0)] fun v12 =>
    .cnd v12 (
     .call 40 [v10, (g c0 0)] fun v13 =>
     .call 48 [v10, v13] fun v14 =>
     .cells 4 v14 fun c15 =>
     .call 66 [v10, (g c0 0), (.agg [(g c15 0), (g c15 1), (g c15 2), (g c15 3)])] fun v16 =>
     .call 40 [v10, (g c0 0)] fun v17 =>
     .op (.int .gtr) [v17, (I 0)] fun v18 =>
     .op (.beq false) [v16, v18] fun v19 =>
     .cnd v19 (
      .op .nonnil [v10] fun v20 =>
      .op (.faddr 0) [v20] fun v21 =>
      .load none v21 fun v22 =>
      .call 68 [v22] fun v23 =>
      .call 67 [v23, v900] fun v24 =>
      .cnd v24 (
       .pcall 23 [] fun v25 =>
       .ret .ret [v25]) (
       .ret .ret [ff])) (
      .ret .ret [ff])) (
     .op (.mkagg [(I 0), (I 0), (S []), ff] [(0, 1), (1, 1), (2, 1), (3, 1)]) [(g c0 0), (g c0 1), (g c0 2), (g c0 3)] fun v26 =>
     .call 69 [v10, v26, v902] fun v27 =>
     .call 40 [v10, (g c0 0)] fun v28 =>
     .call 34 [v10] fun v29 =>
     .op (.len false) [v900] fun v30 =>
     .op (.int .add) [v30, (I 1)] fun v31 =>
     .op (.int .neq) [v29, v31] fun v32 =>
     .cnd v32 (
      .ret .ret [ff]) (
      .op (.int .lss) [v28, (I 1)] fun v33 =>
      .cnd v33 (
       .ret .ret [ff]) (
       .op (.int .geq) [v902, (I 1)] fun v34 =>
       .cnd v34 (
        .op (.len false) [v900] fun v35 =>
        .op (.int .leq) [v902, v35] fun v36 =>
        .cnd v36 (
         .op (.int .neq) [v28, v902] fun v37 =>
         .cnd v37 (
          .ret .ret [ff]) (
          .call 70 [v10, (g c0 0)] fun v38 =>
          .cnd v38 (
           .op .nonnil [v10] fun v39 =>
           .op (.faddr 0) [v39] fun v40 =>
           .load none v40 fun v41 =>
           .call 68 [v41] fun v42 =>
           .call 67 [v42, v900] fun v43 =>
           .cnd v43 (
            .pcall 23 [] fun v44 =>
            .ret .ret [v44]) (
            .ret .ret [ff])) (
           .ret .ret [ff]))) (
         .call 70 [v10, (g c0 0)] fun v45 =>
         .cnd v45 (
          .op .nonnil [v10] fun v46 =>
          .op (.faddr 0) [v46] fun v47 =>
          .load none v47 fun v48 =>
          .call 68 [v48] fun v49 =>
          .call 67 [v49, v900] fun v50 =>
          .cnd v50 (
           .pcall 23 [] fun v51 =>
           .ret .ret [v51]) (
           .ret .ret [ff])) (
          .ret .ret [ff]))) (
        .call 70 [v10, (g c0 0)] fun v52 =>
        .cnd v52 (
         .op .nonnil [v10] fun v53 =>
         .op (.faddr 0) [v53] fun v54 =>
         .load none v54 fun v55 =>
         .call 68 [v55] fun v56 =>
         .call 67 [v56, v900] fun v57 =>
         .cnd v57 (
          .pcall 23 [] fun v58 =>
          .ret .ret [v58]) (
          .ret .ret [ff])) (
         .ret .ret [ff]))))))))
theorem t11_eq (v900 v901 v902 : AVal) : afun cx 11 [v900, v901, v902] = t11 v900 v901 v902 := by kernel_rfl
def t12 (v900 v901 : AVal) : IT :=
 .call 41 [v900] fun v0 =>
 .op (.un .not) [v0] fun v1 =>
 .cnd v1 (
  .pcall 23 [] fun v2 =>
  .ret .ret [v2]) (
  .op (.len true) [v901] fun v3 =>
  .op (.int .gtr) [v3, (I 60)] fun v4 =>
  .cnd v4 (
   .pcall 23 [] fun v5 =>
   .ret .ret [v5]) (
   .objOf 3 40 .slnil v900 fun v6 =>
   .op (.mkagg [.slnil] []) [] fun v7 =>
   .alloc 1 v7 fun v8 =>
   .op (.mkagg [(I 0), (S []), .slnil] [(0, 1), (1, 1), (2, 1)]) [(I 1), v901, v6] fun v9 =>
   .call 71 [v8, v9] fun v10 =>
   .op (.mkagg [(I 0), (S []), .slnil] [(0, 1), (1, 1), (2, 1)]) [(I 2), v901, v6] fun v11 =>
   .call 72 [v8, v11, (I 1)] fun v12 =>
   .op (.mkagg [(I 0), (S []), .slnil] [(0, 1), (1, 1), (2, 1)]) [(I 3), v901, v6] fun v13 =>
   .call 73 [v8, (I 2), v13] fun v14 =>
   .loop 9 [(I 0)] (fun c15 =>
    .op (.len false) [v6] fun v16 =>
    .op (.int .lss) [(g c15 0), v16] fun v17 =>
    .cnd v17 (
     .op (.eaddr 3) [v6, (g c15 0)] fun v18 =>
     .op (.faddr 2) [v18] fun v19 =>
     .load none v19 fun v20 =>
     .op (.str .add) [v20, (S [120])] fun v21 =>
     .op (.eaddr 3) [v6, (g c15 0)] fun v22 =>
     .op (.faddr 2) [v22] fun v23 =>
     .store 1 v23 v21 (
     .op (.int .add) [(g c15 0), (I 1)] fun v24 =>
     .ret .normal [v24])) (
     .ret (.exit 0) [(g c15 0)])) (
   fun x c25 => match x with
   | .normal =>
    .op (.mkagg [(I 0), (S []), .slnil] [(0, 1), (1, 1), (2, 1)]) [(I 1), v901, v900] fun v26 =>
    .op (.mkagg [(I 0), (S []), .slnil] [(0, 1), (1, 1), (2, 1)]) [(I 3), v901, v900] fun v27 =>
    .op (.mksl 3) [v26, v27] fun v28 =>
    .op .nonnil [v8] fun v29 =>
    .op (.faddr 0) [v29] fun v30 =>
    .load none v30 fun v31 =>
    .call 74 [v31, v28] fun v32 =>
    .cnd v32 (
     .pcall 23 [] fun v33 =>
     .ret .ret [v33]) (
     .ret .ret [ff])
   | .exit i =>
    if i = 0 then
     .op (.mkagg [(I 0), (S []), .slnil] [(0, 1), (1, 1), (2, 1)]) [(I 1), v901, v900] fun v34 =>
     .op (.mkagg [(I 0), (S []), .slnil] [(0, 1), (1, 1), (2, 1)]) [(I 3), v901, v900] fun v35 =>
     .op (.mksl 3) [v34, v35] fun v36 =>
     .op .nonnil [v8] fun v37 =>
     .op (.faddr 0) [v37] fun v38 =>
     .load none v38 fun v39 =>
     .call 74 [v39, v36] fun v40 =>
     .cnd v40 (
      .pcall 23 [] fun v41 =>
      .ret .ret [v41]) (
      .ret .ret [ff])
    else
    .fail
   | .ret =>
    .ret .ret [ff])))
theorem t12_eq (v900 v901 : AVal) : afun cx 12 [v900, v901] = t12 v900 v901 := by kernel_rfl
def t13 (v900 : AVal) : IT :=
 .cells 12 v900 fun c0 =>
 .op (.len true) [(g c0 1)] fun v1 =>
 .op (.int .gtr) [v1, (I 200)] fun v2 =>
 .cnd v2 (
  .pcall 23 [] fun v3 =>
  .ret .ret [v3]) (
  .op (.len true) [(g c0 3)] fun v4 =>
  .op (.int .gtr) [v4, (I 200)] fun v5 =>
  .cnd v5 (
   .pcall 23 [] fun v6 =>
   .ret .ret [v6]) (
   .op (.len true) [(g c0 5)] fun v7 =>
   .op (.int .gtr) [v7, (I 200)] fun v8 =>
   .cnd v8 (
    .pcall 23 [] fun v9 =>
    .ret .ret [v9]) (
    .call 75 [(.agg [(g c0 0), (g c0 1), (g c0 2), (g c0 3), (g c0 4), (g c0 5), (g c0 6), (g c0 7), (g c0 8), (g c0 9), (g c0 10), (g c0 11)])] fun v10 =>
    .call 76 [(.agg [(g c0 0), (g c0 1), (g c0 2), (g c0 3), (g c0 4), (g c0 5), (g c0 6), (g c0 7), (g c0 8), (g c0 9), (g c0 10), (g c0 11)])] fun v11 =>
    .op (.beq false) [v10, v11] fun v12 =>
    .cnd v12 (
     .pcall 23 [] fun v13 =>
     .ret .ret [v13]) (
     .ret .ret [ff]))))
theorem t13_eq (v900 : AVal) : afun cx 13 [v900] = t13 v900 := by kernel_rfl
def t14 (v900 v901 v902 : AVal) : IT :=
 .call 77 [v900] fun v0 =>
 .op (.un .not) [v0] fun v1 =>
 .cnd v1 (
  .pcall 23 [] fun v2 =>
  .ret .ret [v2]) (
  .op (.len true) [v901] fun v3 =>
  .op (.int .gtr) [v3, (I 60)] fun v4 =>
  .cnd v4 (
   .pcall 23 [] fun v5 =>
   .ret .ret [v5]) (
   .op (.mkagg [.slnil] []) [] fun v6 =>
   .alloc 1 v6 fun v7 =>
   .loop 6 [ff, .slnil, (I 0)] (fun c8 =>
    .op (.len false) [v900] fun v9 =>
    .op (.int .lss) [(g c8 2), v9] fun v10 =>
    .cnd v10 (
     .op (.eaddr 6) [v900, (g c8 2)] fun v11 =>
     .load (some 6) v11 fun v12 =>
     .call 78 [v7, v12] fun v13 =>
     .op (.eaddr 6) [v900, (g c8 2)] fun v14 =>
     .load (some 6) v14 fun v15 =>
     .call 79 [(g c8 1), v15] fun v16 =>
     .op (.ext 0) [v16] fun v17 =>
     .op (.ext 1) [v16] fun v18 =>
     .op (.int .neq) [v13, v18] fun v19 =>
     .cnd v19 (
      .ret .ret [ff, v17, (g c8 2)]) (
      .op .nonnil [v7] fun v20 =>
      .op (.faddr 0) [v20] fun v21 =>
      .load none v21 fun v22 =>
      .call 74 [v22, v17] fun v23 =>
      .op (.un .not) [v23] fun v24 =>
      .cnd v24 (
       .ret .ret [ff, v17, (g c8 2)]) (
       .call 80 [v7, v901] fun v25 =>
       .call 81 [v17, v901] fun v26 =>
       .op (.int .neq) [v25, v26] fun v27 =>
       .cnd v27 (
        .ret .ret [ff, v17, (g c8 2)]) (
        .call 82 [v7, v902] fun v28 =>
        .call 83 [v17, v902] fun v29 =>
        .op (.int .neq) [v28, v29] fun v30 =>
        .cnd v30 (
         .ret .ret [ff, v17, (g c8 2)]) (
         .op (.int .add) [(g c8 2), (I 1)] fun v31 =>
         .ret .normal [(g c8 0), v17, v31]))))) (
     .ret (.exit 0) [(g c8 0), (g c8 1), (g c8 2)])) (
   fun x c32 => match x with
   | .normal =>
    .pcall 23 [] fun v33 =>
    .ret .ret [v33]
   | .exit i =>
    if i = 0 then
     .pcall 23 [] fun v34 =>
     .ret .ret [v34]
    else
    .fail
   | .ret =>
    .ret .ret [(g c32 0)])))
theorem t14_eq (v900 v901 v902 : AVal) : afun cx 14 [v900, v901, v902] = t14 v900 v901 v902 := by kernel_rfl
def t15 (v900 : AVal) : IT :=
 .call 77 [v900] fun v0 =>
 .op (.un .not) [v0] fun v1 =>
 .cnd v1 (
  .pcall 23 [] fun v2 =>
  .ret .ret [v2]) (
  .op (.mkagg [.slnil] []) [] fun v3 =>
  .alloc 1 v3 fun v4 =>
  .loop 5 [ff, (I 0)] (fun c5 =>
   .op (.len false) [v900] fun v6 =>
   .op (.int .lss) [(g c5 1), v6] fun v7 =>
   .cnd v7 (
    .op (.eaddr 6) [v900, (g c5 1)] fun v8 =>
    .op (.faddr 0) [v8] fun v9 =>
    .load none v9 fun v10 =>
    .op (.int .lss) [v10, (I 5)] fun v11 =>
    .join 100025 (
     .cnd v11 (
      .op (.eaddr 6) [v900, (g c5 1)] fun v12 =>
      .load (some 6) v12 fun v13 =>
      .call 78 [v4, v13] fun v14 =>
      .ret .normal []) (
      .ret .normal [])) (
    fun x c15 => match x with
    | .normal =>
     .loop 10 [(g c5 0), (I 0)] (fun c16 =>
      .op .nonnil [v4] fun v17 =>
      .op (.faddr 0) [v17] fun v18 =>
      .load none v18 fun v19 =>
      .op (.len false) [v19] fun v20 =>
      .op (.int .lss) [(g c16 1), v20] fun v21 =>
      .cnd v21 (
       .loop 14 [(I 0), (g c16 1)] (fun c22 =>
        .join 200014 (
         .op .nonnil [v4] fun v23 =>
         .op (.faddr 0) [v23] fun v24 =>
         .load none v24 fun v25 =>
         .op (.len false) [v25] fun v26 =>
         .op (.int .lss) [(g c22 1), v26] fun v27 =>
         .cnd v27 (
          .op .nonnil [v4] fun v28 =>
          .op (.faddr 0) [v28] fun v29 =>
          .load none v29 fun v30 =>
          .op (.eaddr 3) [v30, (g c22 1)] fun v31 =>
          .op (.faddr 0) [v31] fun v32 =>
          .load none v32 fun v33 =>
          .op (.int .neq) [v33, (I 0)] fun v34 =>
          .ret .normal [v34]) (
          .ret .normal [ff])) (
        fun x c35 => match x with
        | .normal =>
         .cnd (g c35 0) (
          .op .nonnil [v4] fun v36 =>
          .op (.faddr 0) [v36] fun v37 =>
          .load none v37 fun v38 =>
          .op (.eaddr 3) [v38, (g c16 1)] fun v39 =>
          .load (some 3) v39 fun v40 =>
          .op .nonnil [v4] fun v41 =>
          .op (.faddr 0) [v41] fun v42 =>
          .load none v42 fun v43 =>
          .op (.eaddr 3) [v43, (g c22 1)] fun v44 =>
          .load (some 3) v44 fun v45 =>
          .call 84 [v40, v45] fun v46 =>
          .join 100076 (
           .cnd v46 (
            .op (.int .add) [(g c22 0), (I 1)] fun v47 =>
            .ret .normal [v47]) (
            .ret .normal [(g c22 0)])) (
          fun x c48 => match x with
          | .normal =>
           .op (.int .add) [(g c22 1), (I 1)] fun v49 =>
           .ret .normal [(g c48 0), v49]
          | .exit i =>
           if i = 5 then
            .op (.int .add) [(g c22 1), (I 1)] fun v50 =>
            .ret .normal [(g c48 0), v50]
           else
           .ret (.exit i) [(g c48 0), (g c22 1)]
          | .ret =>
           .ret .ret [(g c48 0), (g c22 1)])) (
          .ret (.exit 4) [(g c22 0), (g c22 1)])
        | .exit i =>
         .ret (.exit i) [(g c22 0), (g c22 1)]
        | .ret =>
         .ret .ret [(g c22 0), (g c22 1)])) (
       fun x c51 => match x with
       | .normal =>
        .op (.int .gtr) [(g c51 0), (I 3)] fun v52 =>
        .cnd v52 (
         .ret .ret [ff, (g c16 1)]) (
         .op (.int .add) [(g c16 1), (I 1)] fun v53 =>
         .ret .normal [(g c16 0), v53])
       | .exit i =>
        if i = 4 then
         .op (.int .gtr) [(g c51 0), (I 3)] fun v54 =>
         .cnd v54 (
          .ret .ret [ff, (g c16 1)]) (
          .op (.int .add) [(g c16 1), (I 1)] fun v55 =>
          .ret .normal [(g c16 0), v55])
        else
        if i = 3 then
         .op (.int .add) [(g c16 1), (I 1)] fun v56 =>
         .ret .normal [(g c16 0), v56]
        else
        .ret (.exit i) [(g c16 0), (g c16 1)]
       | .ret =>
        .ret .ret [(g c16 0), (g c16 1)])) (
       .ret (.exit 2) [(g c16 0), (g c16 1)])) (
     fun x c57 => match x with
     | .normal =>
      .op (.int .add) [(g c5 1), (I 1)] fun v58 =>
      .ret .normal [(g c57 0), v58]
     | .exit i =>
      if i = 2 then
       .op (.int .add) [(g c5 1), (I 1)] fun v59 =>
       .ret .normal [(g c57 0), v59]
      else
      if i = 1 then
       .op (.int .add) [(g c5 1), (I 1)] fun v60 =>
       .ret .normal [(g c57 0), v60]
      else
      .ret (.exit i) [(g c57 0), (g c5 1)]
     | .ret =>
      .ret .ret [(g c57 0), (g c5 1)])
    | .exit i =>
     if i = 1 then
      .op (.int .add) [(g c5 1), (I 1)] fun v61 =>
      .ret .normal [(g c5 0), v61]
     else
     .ret (.exit i) [(g c5 0), (g c5 1)]
    | .ret =>
     .ret .ret [(g c5 0), (g c5 1)])) (
    .ret (.exit 0) [(g c5 0), (g c5 1)])) (
  fun x c62 => match x with
  | .normal =>
   .pcall 23 [] fun v63 =>
   .ret .ret [v63]
  | .exit i =>
   if i = 0 then
    .pcall 23 [] fun v64 =>
    .ret .ret [v64]
   else
   .fail
  | .ret =>
   .ret .ret [(g c62 0)]))
theorem t15_eq (v900 : AVal) : afun cx 15 [v900] = t15 v900 := by kernel_rfl
def t16 (v900 v901 : AVal) : IT :=
 .call 41 [v901] fun v0 =>
 .op (.un .not) [v0] fun v1 =>
 .cnd v1 (
  .pcall 23 [] fun v2 =>
  .ret .ret [v2]) (
  .op (.append 3 40) [.slnil, v901] fun v3 =>
  .call 85 [v900, v3] fun v4 =>
  .call 87 [v900, v901] fun v5 =>
  .call 86 [v4, v5] fun v6 =>
  .cnd v6 (
   .call 86 [v3, v901] fun v7 =>
   .cnd v7 (
    .pcall 23 [] fun v8 =>
    .ret .ret [v8]) (
    .ret .ret [ff])) (
   .ret .ret [ff]))
theorem t16_eq (v900 v901 : AVal) : afun cx 16 [v900, v901] = t16 v900 v901 := by kernel_rfl
def t17 (v900 v901 v902 : AVal) : IT :=
 .call 41 [v901] fun v0 =>
 .op (.un .not) [v0] fun v1 =>
 .cnd v1 (
  .pcall 23 [] fun v2 =>
  .ret .ret [v2]) (
  .op (.len true) [v902] fun v3 =>
  .op (.int .gtr) [v3, (I 200)] fun v4 =>
  .cnd v4 (
   .pcall 23 [] fun v5 =>
   .ret .ret [v5]) (
   .call 85 [v900, v901] fun v6 =>
   .op (.len false) [v6] fun v7 =>
   .op (.len false) [v901] fun v8 =>
   .op (.int .neq) [v7, v8] fun v9 =>
   .cnd v9 (
    .ret .ret [ff]) (
    .loop 7 [ff, (I 0)] (fun c10 =>
     .op (.len false) [v901] fun v11 =>
     .op (.int .lss) [(g c10 1), v11] fun v12 =>
     .cnd v12 (
      .op (.eaddr 3) [v6, (g c10 1)] fun v13 =>
      .op (.faddr 2) [v13] fun v14 =>
      .load none v14 fun v15 =>
      .op (.eaddr 3) [v901, (g c10 1)] fun v16 =>
      .op (.faddr 2) [v16] fun v17 =>
      .load none v17 fun v18 =>
      .op (.str .neq) [v15, v18] fun v19 =>
      .cnd v19 (
       .ret .ret [ff, (g c10 1)]) (
       .op (.int .neq) [v900, (I 3)] fun v20 =>
       .cnd v20 (
        .op (.int .neq) [v900, (I 2)] fun v21 =>
        .cnd v21 (
         .op (.eaddr 3) [v6, (g c10 1)] fun v22 =>
         .op (.faddr 1) [v22] fun v23 =>
         .load none v23 fun v24 =>
         .op (.eaddr 3) [v901, (g c10 1)] fun v25 =>
         .op (.faddr 1) [v25] fun v26 =>
         .load none v26 fun v27 =>
         .op (.str .neq) [v24, v27] fun v28 =>
         .cnd v28 (
          .ret .ret [ff, (g c10 1)]) (
          .op (.eaddr 3) [v6, (g c10 1)] fun v29 =>
          .op (.faddr 0) [v29] fun v30 =>
          .load none v30 fun v31 =>
          .op (.int .neq) [v31, (I 0)] fun v32 =>
          .cnd v32 (
           .ret .ret [ff, (g c10 1)]) (
           .op (.int .add) [(g c10 1), (I 1)] fun v33 =>
           .ret .normal [(g c10 0), v33]))) (
         .op (.int .add) [(g c10 1), (I 1)] fun v34 =>
         .ret .normal [(g c10 0), v34])) (
        .op (.int .add) [(g c10 1), (I 1)] fun v35 =>
        .ret .normal [(g c10 0), v35]))) (
      .ret (.exit 0) [(g c10 0), (g c10 1)])) (
    fun x c36 => match x with
    | .normal =>
     .pcall 64 [v902] fun v37 =>
     .op (.len true) [v37] fun v38 =>
     .op (.len true) [v902] fun v39 =>
     .op (.int .neq) [v38, v39] fun v40 =>
     .cnd v40 (
      .ret .ret [ff]) (
      .loop 15 [(g c36 0), (I 0)] (fun c41 =>
       .op (.len true) [v37] fun v42 =>
       .op (.int .lss) [(g c41 1), v42] fun v43 =>
       .cnd v43 (
        .op .sidx [v37, (g c41 1)] fun v44 =>
        .op .sidx [v902, (g c41 1)] fun v45 =>
        .op (.int .neq) [v44, v45] fun v46 =>
        .cnd v46 (
         .op .sidx [v37, (g c41 1)] fun v47 =>
         .op (.int .lss) [v47, (.int .u8 65)] fun v48 =>
         .cnd v48 (
          .ret .ret [ff, (g c41 1)]) (
          .op .sidx [v37, (g c41 1)] fun v49 =>
          .op (.int .gtr) [v49, (.int .u8 90)] fun v50 =>
          .cnd v50 (
           .ret .ret [ff, (g c41 1)]) (
           .op .sidx [v902, (g c41 1)] fun v51 =>
           .op .sidx [v37, (g c41 1)] fun v52 =>
           .op (.int .add) [v52, (.int .u8 32)] fun v53 =>
           .op (.int .neq) [v51, v53] fun v54 =>
           .cnd v54 (
            .ret .ret [ff, (g c41 1)]) (
            .op (.int .add) [(g c41 1), (I 1)] fun v55 =>
            .ret .normal [(g c41 0), v55])))) (
         .op (.int .add) [(g c41 1), (I 1)] fun v56 =>
         .ret .normal [(g c41 0), v56])) (
        .ret (.exit 2) [(g c41 0), (g c41 1)])) (
      fun x c57 => match x with
      | .normal =>
       .pcall 64 [v37] fun v58 =>
       .op (.str .eql) [v58, v37] fun v59 =>
       .cnd v59 (
        .pcall 23 [] fun v60 =>
        .ret .ret [v60]) (
        .ret .ret [ff])
      | .exit i =>
       if i = 2 then
        .pcall 64 [v37] fun v61 =>
        .op (.str .eql) [v61, v37] fun v62 =>
        .cnd v62 (
         .pcall 23 [] fun v63 =>
         .ret .ret [v63]) (
         .ret .ret [ff])
       else
       .fail
      | .ret =>
       .ret .ret [(g c57 0)]))
    | .exit i =>
     if i = 0 then
      .pcall 64 [v902] fun v64 =>
      .op (.len true) [v64] fun v65 =>
      .op (.len true) [v902] fun v66 =>
      .op (.int .neq) [v65, v66] fun v67 =>
      .cnd v67 (
       .ret .ret [ff]) (
       .loop 15 [(g c36 0), (I 0)] (fun c68 =>
        .op (.len true) [v64] fun v69 =>
        .op (.int .lss) [(g c68 1), v69] fun v70 =>
        .cnd v70 (
         .op .sidx [v64, (g c68 1)] fun v71 =>
         .op .sidx [v902, (g c68 1)] fun v72 =>
         .op (.int .neq) [v71, v72] fun v73 =>
         .cnd v73 (
          .op .sidx [v64, (g c68 1)] fun v74 =>
          .op (.int .lss) [v74, (.int .u8 65)] fun v75 =>
          .cnd v75 (
           .ret .ret [ff, (g c68 1)]) (
           .op .sidx [v64, (g c68 1)] fun v76 =>
           .op (.int .gtr) [v76, (.int .u8 90)] fun v77 =>
           .cnd v77 (
            .ret .ret [ff, (g c68 1)]) (
            .op .sidx [v902, (g c68 1)] fun v78 =>
            .op .sidx [v64, (g c68 1)] fun v79 =>
            .op (.int .add) [v79, (.int .u8 32)] fun v80 =>
            .op (.int .neq) [v78, v80] fun v81 =>
            .cnd v81 (
             .ret .ret [ff, (g c68 1)]) (
             .op (.int .add) [(g c68 1), (I 1)] fun v82 =>
             .ret .normal [(g c68 0), v82])))) (
          .op (.int .add) [(g c68 1), (I 1)] fun v83 =>
          .ret .normal [(g c68 0), v83])) (
         .ret (.exit 2) [(g c68 0), (g c68 1)])) (
       fun x c84 => match x with
       | .normal =>
        .pcall 64 [v64] fun v85 =>
        .op (.str .eql) [v85, v64] fun v86 =>
        .cnd v86 (
         .pcall 23 [] fun v87 =>
         .ret .ret [v87]) (
         .ret .ret [ff])
       | .exit i =>
        if i = 2 then
         .pcall 64 [v64] fun v88 =>
         .op (.str .eql) [v88, v64] fun v89 =>
         .cnd v89 (
          .pcall 23 [] fun v90 =>
          .ret .ret [v90]) (
          .ret .ret [ff])
        else
        .fail
       | .ret =>
        .ret .ret [(g c84 0)]))
     else
     .fail
    | .ret =>
     .ret .ret [(g c36 0)]))))
theorem t17_eq (v900 v901 v902 : AVal) : afun cx 17 [v900, v901, v902] = t17 v900 v901 v902 := by kernel_rfl
def t18 (v900 : AVal) : IT :=
 .call 88 [v900] fun v0 =>
 .op (.un .not) [v0] fun v1 =>
 .cnd v1 (
  .pcall 23 [] fun v2 =>
  .ret .ret [v2]) (
  .op (.mkagg [.slnil] []) [] fun v3 =>
  .alloc 1 v3 fun v4 =>
  .loop 6 [ff, .slnil, (I 0)] (fun c5 =>
   .op (.len false) [v900] fun v6 =>
   .op (.int .lss) [(g c5 2), v6] fun v7 =>
   .cnd v7 (
    .op (.eaddr 8) [v900, (g c5 2)] fun v8 =>
    .load (some 8) v8 fun v9 =>
    .call 89 [v4, v9] fun v10 =>
    .op (.ext 0) [v10] fun v11 =>
    .op (.ext 1) [v10] fun v12 =>
    .cells 4 v11 fun c13 =>
    .op (.eaddr 8) [v900, (g c5 2)] fun v14 =>
    .load (some 8) v14 fun v15 =>
    .call 90 [(g c5 1), v15] fun v16 =>
    .op (.ext 0) [v16] fun v17 =>
    .op (.ext 1) [v16] fun v18 =>
    .op (.ext 2) [v16] fun v19 =>
    .cells 4 v18 fun c20 =>
    .op (.geq true [.i, .i, .s, .b]) [(.agg [(g c13 0), (g c13 1), (g c13 2), (g c13 3)]), (.agg [(g c20 0), (g c20 1), (g c20 2), (g c20 3)])] fun v21 =>
    .cnd v21 (
     .ret .ret [ff, v17, (g c5 2)]) (
     .op (.int .neq) [v12, v19] fun v22 =>
     .cnd v22 (
      .ret .ret [ff, v17, (g c5 2)]) (
      .call 34 [v4] fun v23 =>
      .op (.len false) [v17] fun v24 =>
      .op (.int .neq) [v23, v24] fun v25 =>
      .cnd v25 (
       .ret .ret [ff, v17, (g c5 2)]) (
       .call 33 [v4] fun v26 =>
       .call 32 [v26] fun v27 =>
       .call 91 [v17] fun v28 =>
       .op (.geq true [.i, .i, .s, .b]) [v27, v28] fun v29 =>
       .cnd v29 (
        .ret .ret [ff, v17, (g c5 2)]) (
        .op .nonnil [v4] fun v30 =>
        .op (.faddr 0) [v30] fun v31 =>
        .load none v31 fun v32 =>
        .call 68 [v32] fun v33 =>
        .call 67 [v33, v17] fun v34 =>
        .op (.un .not) [v34] fun v35 =>
        .cnd v35 (
         .ret .ret [ff, v17, (g c5 2)]) (
         .op (.int .add) [(g c5 2), (I 1)] fun v36 =>
         .ret .normal [(g c5 0), v17, v36])))))) (
    .ret (.exit 0) [(g c5 0), (g c5 1), (g c5 2)])) (
  fun x c37 => match x with
  | .normal =>
   .pcall 23 [] fun v38 =>
   .ret .ret [v38]
  | .exit i =>
   if i = 0 then
    .pcall 23 [] fun v39 =>
    .ret .ret [v39]
   else
   .fail
  | .ret =>
   .ret .ret [(g c37 0)]))
theorem t18_eq (v900 : AVal) : afun cx 18 [v900] = t18 v900 := by kernel_rfl
def t19 (v900 v901 : AVal) : IT :=
 .cells 4 v900 fun c0 =>
 .call 88 [v901] fun v1 =>
 .op (.un .not) [v1] fun v2 =>
 .cnd v2 (
  .pcall 23 [] fun v3 =>
  .ret .ret [v3]) (
  .op (.len true) [(g c0 2)] fun v4 =>
  .op (.int .gtr) [v4, (I 60)] fun v5 =>
  .cnd v5 (
   .pcall 23 [] fun v6 =>
   .ret .ret [v6]) (
   .op (.mksl 4) [(.agg [(g c0 0), (g c0 1), (g c0 2), (g c0 3)])] fun v7 =>
   .call 24 [v7] fun v8 =>
   .loop 5 [ff, (I 0)] (fun c9 =>
    .op (.len false) [v901] fun v10 =>
    .op (.int .lss) [(g c9 1), v10] fun v11 =>
    .cnd v11 (
     .call 34 [v8] fun v12 =>
     .op (.eaddr 8) [v901, (g c9 1)] fun v13 =>
     .load (some 8) v13 fun v14 =>
     .call 89 [v8, v14] fun v15 =>
     .call 34 [v8] fun v16 =>
     .op (.int .lss) [v16, (I 1)] fun v17 =>
     .cnd v17 (
      .ret .ret [ff, (g c9 1)]) (
      .call 48 [v8, (I 0)] fun v18 =>
      .call 32 [v18] fun v19 =>
      .op (.geq true [.i, .i, .s, .b]) [v19, (.agg [(g c0 0), (g c0 1), (g c0 2), (g c0 3)])] fun v20 =>
      .cnd v20 (
       .ret .ret [ff, (g c9 1)]) (
       .op (.eaddr 8) [v901, (g c9 1)] fun v21 =>
       .op (.faddr 0) [v21] fun v22 =>
       .load none v22 fun v23 =>
       .op (.int .eql) [v23, (I 1)] fun v24 =>
       .cnd v24 (
        .call 34 [v8] fun v25 =>
        .op (.int .add) [v12, (I 1)] fun v26 =>
        .op (.int .neq) [v25, v26] fun v27 =>
        .cnd v27 (
         .ret .ret [ff, (g c9 1)]) (
         .op (.un .not) [tt] fun v28 =>
         .cnd v28 (
          .call 34 [v8] fun v29 =>
          .op (.int .gtr) [v29, v12] fun v30 =>
          .cnd v30 (
           .ret .ret [ff, (g c9 1)]) (
           .op (.int .add) [(g c9 1), (I 1)] fun v31 =>
           .ret .normal [(g c9 0), v31])) (
          .op (.int .add) [(g c9 1), (I 1)] fun v32 =>
          .ret .normal [(g c9 0), v32]))) (
        .op (.eaddr 8) [v901, (g c9 1)] fun v33 =>
        .op (.faddr 0) [v33] fun v34 =>
        .load none v34 fun v35 =>
        .op (.int .eql) [v35, (I 10)] fun v36 =>
        .cnd v36 (
         .call 34 [v8] fun v37 =>
         .op (.int .add) [v12, (I 1)] fun v38 =>
         .op (.int .neq) [v37, v38] fun v39 =>
         .cnd v39 (
          .ret .ret [ff, (g c9 1)]) (
          .op (.un .not) [v36] fun v40 =>
          .cnd v40 (
           .call 34 [v8] fun v41 =>
           .op (.int .gtr) [v41, v12] fun v42 =>
           .cnd v42 (
            .ret .ret [ff, (g c9 1)]) (
            .op (.int .add) [(g c9 1), (I 1)] fun v43 =>
            .ret .normal [(g c9 0), v43])) (
           .op (.int .add) [(g c9 1), (I 1)] fun v44 =>
           .ret .normal [(g c9 0), v44]))) (
         .op (.un .not) [v36] fun v45 =>
         .cnd v45 (
          .call 34 [v8] fun v46 =>
          .op (.int .gtr) [v46, v12] fun v47 =>
          .cnd v47 (
           .ret .ret [ff, (g c9 1)]) (
           .op (.int .add) [(g c9 1), (I 1)] fun v48 =>
           .ret .normal [(g c9 0), v48])) (
          .op (.int .add) [(g c9 1), (I 1)] fun v49 =>
          .ret .normal [(g c9 0), v49])))))) (
     .ret (.exit 0) [(g c9 0), (g c9 1)])) (
   fun x c50 => match x with
   | .normal =>
    .pcall 23 [] fun v51 =>
    .ret .ret [v51]
   | .exit i =>
    if i = 0 then
     .pcall 23 [] fun v52 =>
     .ret .ret [v52]
    else
    .fail
   | .ret =>
    .ret .ret [(g c50 0)])))
theorem t19_eq (v900 v901 : AVal) : afun cx 19 [v900, v901] = t19 v900 v901 := by kernel_rfl
def t20 (v900 v901 : AVal) : IT :=
 .cells 8 v900 fun c0 =>
 .cells 6 v901 fun c1 =>
 .op (.len true) [(g c0 4)] fun v2 =>
 .op (.int .gtr) [v2, (I 60)] fun v3 =>
 .cnd v3 (
  .pcall 23 [] fun v4 =>
  .ret .ret [v4]) (
  .call 22 [(g c0 6)] fun v5 =>
  .op (.un .not) [v5] fun v6 =>
  .cnd v6 (
   .pcall 23 [] fun v7 =>
   .ret .ret [v7]) (
   .call 41 [(g c1 4)] fun v8 =>
   .op (.un .not) [v8] fun v9 =>
   .cnd v9 (
    .pcall 23 [] fun v10 =>
    .ret .ret [v10]) (
    .call 89 [(.ptr none), (.agg [(g c0 0), (g c0 1), (g c0 2), (g c0 3), (g c0 4), (g c0 5), (g c0 6), (g c0 7)])] fun v11 =>
    .op (.ext 0) [v11] fun v12 =>
    .op (.ext 1) [v11] fun v13 =>
    .cells 4 v12 fun c14 =>
    .op (.mkagg [(I 0), (I 0), (S []), ff] []) [] fun v15 =>
    .op (.geq true [.i, .i, .s, .b]) [(.agg [(g c14 0), (g c14 1), (g c14 2), (g c14 3)]), v15] fun v16 =>
    .cnd v16 (
     .ret .ret [ff]) (
     .op (.int .neq) [v13, (I 0)] fun v17 =>
     .cnd v17 (
      .ret .ret [ff]) (
      .call 78 [(.ptr none), (.agg [(g c1 0), (g c1 1), (g c1 2), (g c1 3), (g c1 4), (g c1 5)])] fun v18 =>
      .op (.int .neq) [v18, (I 0)] fun v19 =>
      .cnd v19 (
       .ret .ret [ff]) (
       .call 34 [(.ptr none)] fun v20 =>
       .op (.int .neq) [v20, (I 0)] fun v21 =>
       .cnd v21 (
        .ret .ret [ff]) (
        .call 33 [(.ptr none)] fun v22 =>
        .op (.mkagg [(I 0), (I 0), (S []), ff] []) [] fun v23 =>
        .op (.geq true [.i, .i, .s, .b]) [v22, v23] fun v24 =>
        .cnd v24 (
         .ret .ret [ff]) (
         .call 48 [(.ptr none), (g c0 7)] fun v25 =>
         .op (.mkagg [(I 0), (I 0), (S []), ff] []) [] fun v26 =>
         .op (.geq true [.i, .i, .s, .b]) [v25, v26] fun v27 =>
         .cnd v27 (
          .ret .ret [ff]) (
          .call 40 [(.ptr none), (g c0 1)] fun v28 =>
          .op (.int .neq) [v28, (I (-1))] fun v29 =>
          .cnd v29 (
           .ret .ret [ff]) (
           .call 39 [(.ptr none), (g c0 4)] fun v30 =>
           .op (.int .neq) [v30, (I (-1))] fun v31 =>
           .cnd v31 (
            .ret .ret [ff]) (
            .call 51 [(.ptr none), (g c0 1)] fun v32 =>
            .op (.int .neq) [v32, (I (-1))] fun v33 =>
            .cnd v33 (
             .ret .ret [ff]) (
             .call 25 [(.ptr none), (g c0 7), (g c0 6)] fun v34 =>
             .cnd v34 (
              .ret .ret [ff]) (
              .call 27 [(.ptr none), (g c0 7), (g c0 1)] fun v35 =>
              .cnd v35 (
               .ret .ret [ff]) (
               .call 80 [(.ptr none), (g c1 3)] fun v36 =>
               .op (.int .eql) [v36, (I (-1))] fun v37 =>
               .cnd v37 (
                .call 82 [(.ptr none), (g c1 1)] fun v38 =>
                .op (.int .eql) [v38, (I (-1))] fun v39 =>
                .cnd v39 (
                 .pcall 23 [] fun v40 =>
                 .ret .ret [v40]) (
                 .ret .ret [ff])) (
                .ret .ret [ff])))))))))))))))
theorem t20_eq (v900 v901 : AVal) : afun cx 20 [v900, v901] = t20 v900 v901 := by kernel_rfl
def t21 (v900 : AVal) : IT :=
 .loop 2 [ff, (I 0)] (fun c0 =>
  .op (.len false) [v900] fun v1 =>
  .op (.int .lss) [(g c0 1), v1] fun v2 =>
  .cnd v2 (
   .op (.int .leq) [(g c0 1), (I 60)] fun v3 =>
   .cnd v3 (
    .op (.eaddr 4) [v900, (g c0 1)] fun v4 =>
    .op (.faddr 2) [v4] fun v5 =>
    .load none v5 fun v6 =>
    .op (.len true) [v6] fun v7 =>
    .op (.int .gtr) [v7, (I 60)] fun v8 =>
    .cnd v8 (
     .ret .ret [ff, (g c0 1)]) (
     .op (.int .add) [(g c0 1), (I 1)] fun v9 =>
     .ret .normal [(g c0 0), v9])) (
    .ret (.exit 0) [(g c0 0), (g c0 1)])) (
   .ret (.exit 0) [(g c0 0), (g c0 1)])) (
 fun x c10 => match x with
 | .normal =>
  .op (.len false) [v900] fun v11 =>
  .op (.int .leq) [v11, (I 60)] fun v12 =>
  .ret .ret [v12]
 | .exit i =>
  if i = 0 then
   .op (.len false) [v900] fun v13 =>
   .op (.int .leq) [v13, (I 60)] fun v14 =>
   .ret .ret [v14]
  else
  .fail
 | .ret =>
  .ret .ret [(g c10 0)])
theorem t21_eq (v900 : AVal) : afun cx 21 [v900] = t21 v900 := by kernel_rfl
def t22 (v900 : AVal) : IT :=
 .loop 2 [ff, (I 0)] (fun c0 =>
  .op (.len false) [v900] fun v1 =>
  .op (.int .lss) [(g c0 1), v1] fun v2 =>
  .cnd v2 (
   .op (.int .leq) [(g c0 1), (I 12)] fun v3 =>
   .cnd v3 (
    .op (.eaddr 1) [v900, (g c0 1)] fun v4 =>
    .load none v4 fun v5 =>
    .op (.len true) [v5] fun v6 =>
    .op (.int .gtr) [v6, (I 60)] fun v7 =>
    .cnd v7 (
     .ret .ret [ff, (g c0 1)]) (
     .op (.int .add) [(g c0 1), (I 1)] fun v8 =>
     .ret .normal [(g c0 0), v8])) (
    .ret (.exit 0) [(g c0 0), (g c0 1)])) (
   .ret (.exit 0) [(g c0 0), (g c0 1)])) (
 fun x c9 => match x with
 | .normal =>
  .op (.len false) [v900] fun v10 =>
  .op (.int .leq) [v10, (I 12)] fun v11 =>
  .ret .ret [v11]
 | .exit i =>
  if i = 0 then
   .op (.len false) [v900] fun v12 =>
   .op (.int .leq) [v12, (I 12)] fun v13 =>
   .ret .ret [v13]
  else
  .fail
 | .ret =>
  .ret .ret [(g c9 0)])
theorem t22_eq (v900 : AVal) : afun cx 22 [v900] = t22 v900 := by kernel_rfl
def t23 : IT :=
 .op (.mkagg [.slnil] []) [] fun v0 =>
 .alloc 1 v0 fun v1 =>
 .op (.mksl 1) [(S [104,116,109,108]), (S [98,111,100,121]), (S [116,97,98,108,101]), (S [116,100]), (S [112])] fun v2 =>
 .op (.len false) [v2] fun v3 =>
 .loop 3 [(I 0)] (fun c4 =>
  .op (.int .lss) [(g c4 0), v3] fun v5 =>
  .cnd v5 (
   .op (.eaddr 1) [v2, (g c4 0)] fun v6 =>
   .load none v6 fun v7 =>
   .op (.int .add) [(g c4 0), (I 1)] fun v8 =>
   .op (.mkagg [(I 0), (I 0), (S []), ff] [(0, 1), (1, 1), (2, 1)]) [v8, (I 1), v7] fun v9 =>
   .call 92 [v1, v9] fun v10 =>
   .op (.int .add) [(g c4 0), (I 1)] fun v11 =>
   .ret .normal [v11]) (
   .ret (.exit 0) [(g c4 0)])) (
 fun x c12 => match x with
 | .normal =>
  .op (.mksl 1) [(S [112])] fun v13 =>
  .call 25 [v1, (I 3), v13] fun v14 =>
  .op (.un .not) [v14] fun v15 =>
  .cnd v15 (
   .ret .ret [ff]) (
   .op (.mksl 1) [(S [116,97,98,108,101])] fun v16 =>
   .call 25 [v1, (I 1), v16] fun v17 =>
   .cnd v17 (
    .ret .ret [ff]) (
    .op (.mksl 1) [(S [116,97,98,108,101])] fun v18 =>
    .call 25 [v1, (I 4), v18] fun v19 =>
    .op (.un .not) [v19] fun v20 =>
    .cnd v20 (
     .ret .ret [ff]) (
     .call 27 [v1, (I 1), (I 4)] fun v21 =>
     .op (.un .not) [v21] fun v22 =>
     .cnd v22 (
      .ret .ret [ff]) (
      .call 30 [v1, (S [108,105])] fun v23 =>
      .op (.int .neq) [v23, (I 1)] fun v24 =>
      .cnd v24 (
       .ret .ret [ff]) (
       .call 34 [v1] fun v25 =>
       .op (.int .neq) [v25, (I 4)] fun v26 =>
       .cnd v26 (
        .ret .ret [ff]) (
        .op (.mksl 1) [(S [116,97,98,108,101])] fun v27 =>
        .call 31 [v1, v27] fun v28 =>
        .op (.int .neq) [v28, (I 2)] fun v29 =>
        .cnd v29 (
         .ret .ret [ff]) (
         .call 34 [v1] fun v30 =>
         .op (.int .neq) [v30, (I 2)] fun v31 =>
         .cnd v31 (
          .ret .ret [ff]) (
          .op (.mksl 1) [(S [120])] fun v32 =>
          .call 31 [v1, v32] fun v33 =>
          .op (.int .neq) [v33, (I 1)] fun v34 =>
          .cnd v34 (
           .ret .ret [ff]) (
           .call 34 [v1] fun v35 =>
           .op (.int .neq) [v35, (I 1)] fun v36 =>
           .cnd v36 (
            .ret .ret [ff]) (
            .call 93 [v1] fun v37 =>
            .op (.mkagg [(I 0), (I 0), (S []), ff] []) [] fun v38 =>
            .op (.geq true [.i, .i, .s, .b]) [v37, v38] fun v39 =>
            .cnd v39 (
             .ret .ret [ff]) (
             .op (.mkagg [.slnil] []) [] fun v40 =>
             .alloc 1 v40 fun v41 =>
             .loop 11 [(I 1)] (fun c42 =>
              .op (.int .leq) [(g c42 0), (I 4)] fun v43 =>
              .cnd v43 (
               .op (.mkagg [(I 0), (S []), .slnil] [(0, 1), (1, 1)]) [(g c42 0), (S [98])] fun v44 =>
               .call 71 [v41, v44] fun v45 =>
               .op (.int .add) [(g c42 0), (I 1)] fun v46 =>
               .ret .normal [v46]) (
               .ret (.exit 2) [(g c42 0)])) (
             fun x c47 => match x with
             | .normal =>
              .call 94 [v41] fun v48 =>
              .op .nonnil [v41] fun v49 =>
              .op (.faddr 0) [v49] fun v50 =>
              .load none v50 fun v51 =>
              .op (.len false) [v51] fun v52 =>
              .op (.int .neq) [v52, (I 4)] fun v53 =>
              .cnd v53 (
               .ret .ret [ff]) (
               .call 80 [v41, (S [98])] fun v54 =>
               .op (.int .neq) [v54, (I (-1))] fun v55 =>
               .cnd v55 (
                .ret .ret [ff]) (
                .op (.mkagg [(I 0), (S []), .slnil] [(0, 1), (1, 1)]) [(I 5), (S [98])] fun v56 =>
                .call 71 [v41, v56] fun v57 =>
                .call 80 [v41, (S [98])] fun v58 =>
                .op (.int .eql) [v58, (I 4)] fun v59 =>
                .cnd v59 (
                 .call 95 [v41] fun v60 =>
                 .op (.int .eql) [v60, (I 2)] fun v61 =>
                 .cnd v61 (
                  .call 80 [v41, (S [98])] fun v62 =>
                  .op (.int .eql) [v62, (I 2)] fun v63 =>
                  .cnd v63 (
                   .pcall 42 [(I 2), (S [116,105,116,108,101])] fun v64 =>
                   .cnd v64 (
                    .pcall 64 [(S [102,111,114,101,105,103,110,111,98,106,101,99,116])] fun v65 =>
                    .op (.str .eql) [v65, (S [102,111,114,101,105,103,110,79,98,106,101,99,116])] fun v66 =>
                    .ret .ret [v66]) (
                    .ret .ret [ff])) (
                   .ret .ret [ff])) (
                  .ret .ret [ff])) (
                 .ret .ret [ff])))
             | .exit i =>
              if i = 2 then
               .call 94 [v41] fun v67 =>
               .op .nonnil [v41] fun v68 =>
               .op (.faddr 0) [v68] fun v69 =>
               .load none v69 fun v70 =>
               .op (.len false) [v70] fun v71 =>
               .op (.int .neq) [v71, (I 4)] fun v72 =>
               .cnd v72 (
                .ret .ret [ff]) (
                .call 80 [v41, (S [98])] fun v73 =>
                .op (.int .neq) [v73, (I (-1))] fun v74 =>
                .cnd v74 (
                 .ret .ret [ff]) (
                 .op (.mkagg [(I 0), (S []), .slnil] [(0, 1), (1, 1)]) [(I 5), (S [98])] fun v75 =>
                 .call 71 [v41, v75] fun v76 =>
                 .call 80 [v41, (S [98])] fun v77 =>
                 .op (.int .eql) [v77, (I 4)] fun v78 =>
                 .cnd v78 (
                  .call 95 [v41] fun v79 =>
                  .op (.int .eql) [v79, (I 2)] fun v80 =>
                  .cnd v80 (
                   .call 80 [v41, (S [98])] fun v81 =>
                   .op (.int .eql) [v81, (I 2)] fun v82 =>
                   .cnd v82 (
                    .pcall 42 [(I 2), (S [116,105,116,108,101])] fun v83 =>
                    .cnd v83 (
                     .pcall 64 [(S [102,111,114,101,105,103,110,111,98,106,101,99,116])] fun v84 =>
                     .op (.str .eql) [v84, (S [102,111,114,101,105,103,110,79,98,106,101,99,116])] fun v85 =>
                     .ret .ret [v85]) (
                     .ret .ret [ff])) (
                    .ret .ret [ff])) (
                   .ret .ret [ff])) (
                  .ret .ret [ff])))
              else
              .fail
             | .ret =>
              .ret .ret [ff]))))))))))))
 | .exit i =>
  if i = 0 then
   .op (.mksl 1) [(S [112])] fun v86 =>
   .call 25 [v1, (I 3), v86] fun v87 =>
   .op (.un .not) [v87] fun v88 =>
   .cnd v88 (
    .ret .ret [ff]) (
    .op (.mksl 1) [(S [116,97,98,108,101])] fun v89 =>
    .call 25 [v1, (I 1), v89] fun v90 =>
    .cnd v90 (
     .ret .ret [ff]) (
     .op (.mksl 1) [(S [116,97,98,108,101])] fun v91 =>
     .call 25 [v1, (I 4), v91] fun v92 =>
     .op (.un .not) [v92] fun v93 =>
     .cnd v93 (
      .ret .ret [ff]) (
      .call 27 [v1, (I 1), (I 4)] fun v94 =>
      .op (.un .not) [v94] fun v95 =>
      .cnd v95 (
       .ret .ret [ff]) (
       .call 30 [v1, (S [108,105])] fun v96 =>
       .op (.int .neq) [v96, (I 1)] fun v97 =>
       .cnd v97 (
        .ret .ret [ff]) (
        .call 34 [v1] fun v98 =>
        .op (.int .neq) [v98, (I 4)] fun v99 =>
        .cnd v99 (
         .ret .ret [ff]) (
         .op (.mksl 1) [(S [116,97,98,108,101])] fun v100 =>
         .call 31 [v1, v100] fun v101 =>
         .op (.int .neq) [v101, (I 2)] fun v102 =>
         .cnd v102 (
          .ret .ret [ff]) (
          .call 34 [v1] fun v103 =>
          .op (.int .neq) [v103, (I 2)] fun v104 =>
          .cnd v104 (
           .ret .ret [ff]) (
           .op (.mksl 1) [(S [120])] fun v105 =>
           .call 31 [v1, v105] fun v106 =>
           .op (.int .neq) [v106, (I 1)] fun v107 =>
           .cnd v107 (
            .ret .ret [ff]) (
            .call 34 [v1] fun v108 =>
            .op (.int .neq) [v108, (I 1)] fun v109 =>
            .cnd v109 (
             .ret .ret [ff]) (
             .call 93 [v1] fun v110 =>
             .op (.mkagg [(I 0), (I 0), (S []), ff] []) [] fun v111 =>
             .op (.geq true [.i, .i, .s, .b]) [v110, v111] fun v112 =>
             .cnd v112 (
              .ret .ret [ff]) (
              .op (.mkagg [.slnil] []) [] fun v113 =>
              .alloc 1 v113 fun v114 =>
              .loop 11 [(I 1)] (fun c115 =>
               .op (.int .leq) [(g c115 0), (I 4)] fun v116 =>
               .cnd v116 (
                .op (.mkagg [(I 0), (S []), .slnil] [(0, 1), (1, 1)]) [(g c115 0), (S [98])] fun v117 =>
                .call 71 [v114, v117] fun v118 =>
                .op (.int .add) [(g c115 0), (I 1)] fun v119 =>
                .ret .normal [v119]) (
                .ret (.exit 2) [(g c115 0)])) (
              fun x c120 => match x with
              | .normal =>
               .call 94 [v114] fun v121 =>
               .op .nonnil [v114] fun v122 =>
               .op (.faddr 0) [v122] fun v123 =>
               .load none v123 fun v124 =>
               .op (.len false) [v124] fun v125 =>
               .op (.int .neq) [v125, (I 4)] fun v126 =>
               .cnd v126 (
                .ret .ret [ff]) (
                .call 80 [v114, (S [98])] fun v127 =>
                .op (.int .neq) [v127, (I (-1))] fun v128 =>
                .cnd v128 (
                 .ret .ret [ff]) (
                 .op (.mkagg [(I 0), (S []), .slnil] [(0, 1), (1, 1)]) [(I 5), (S [98])] fun v129 =>
                 .call 71 [v114, v129] fun v130 =>
                 .call 80 [v114, (S [98])] fun v131 =>
                 .op (.int .eql) [v131, (I 4)] fun v132 =>
                 .cnd v132 (
                  .call 95 [v114] fun v133 =>
                  .op (.int .eql) [v133, (I 2)] fun v134 =>
                  .cnd v134 (
                   .call 80 [v114, (S [98])] fun v135 =>
                   .op (.int .eql) [v135, (I 2)] fun v136 =>
                   .cnd v136 (
                    .pcall 42 [(I 2), (S [116,105,116,108,101])] fun v137 =>
                    .cnd v137 (
                     .pcall 64 [(S [102,111,114,101,105,103,110,111,98,106,101,99,116])] fun v138 =>
                     .op (.str .eql) [v138, (S [102,111,114,101,105,103,110,79,98,106,101,99,116])] fun v139 =>
                     .ret .ret [v139]) (
                     .ret .ret [ff])) (
                    .ret .ret [ff])) (
                   .ret .ret [ff])) (
                  .ret .ret [ff])))
              | .exit i =>
               if i = 2 then
                .call 94 [v114] fun v140 =>
                .op .nonnil [v114] fun v141 =>
                .op (.faddr 0) [v141] fun v142 =>
                .load none v142 fun v143 =>
                .op (.len false) [v143] fun v144 =>
                .op (.int .neq) [v144, (I 4)] fun v145 =>
                .cnd v145 (
                 .ret .ret [ff]) (
                 .call 80 [v114, (S [98])] fun v146 =>
                 .op (.int .neq) [v146, (I (-1))] fun v147 =>
                 .cnd v147 (
                  .ret .ret [ff]) (
                  .op (.mkagg [(I 0), (S []), .slnil] [(0, 1), (1, 1)]) [(I 5), (S [98])] fun v148 =>
                  .call 71 [v114, v148] fun v149 =>
                  .call 80 [v114, (S [98])] fun v150 =>
                  .op (.int .eql) [v150, (I 4)] fun v151 =>
                  .cnd v151 (
                   .call 95 [v114] fun v152 =>
                   .op (.int .eql) [v152, (I 2)] fun v153 =>
                   .cnd v153 (
                    .call 80 [v114, (S [98])] fun v154 =>
                    .op (.int .eql) [v154, (I 2)] fun v155 =>
                    .cnd v155 (
                     .pcall 42 [(I 2), (S [116,105,116,108,101])] fun v156 =>
                     .cnd v156 (
                      .pcall 64 [(S [102,111,114,101,105,103,110,111,98,106,101,99,116])] fun v157 =>
                      .op (.str .eql) [v157, (S [102,111,114,101,105,103,110,79,98,106,101,99,116])] fun v158 =>
                      .ret .ret [v158]) (
                      .ret .ret [ff])) (
                     .ret .ret [ff])) (
                    .ret .ret [ff])) (
                   .ret .ret [ff])))
               else
               .fail
              | .ret =>
               .ret .ret [ff]))))))))))))
  else
  .fail
 | .ret =>
  .ret .ret [ff])
theorem t23_eq : afun cx 23 [] = t23  := by kernel_rfl
end Go.Am
