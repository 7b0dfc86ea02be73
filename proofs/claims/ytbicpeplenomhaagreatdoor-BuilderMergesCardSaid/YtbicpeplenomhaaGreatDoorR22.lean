/- Parts of the proof. No law is claimed here. -/
import Derived.Test.YtbicpeplenomhaaGreatDoorR10
import Derived.Test.YtbicpeplenomhaaGreatDoorR18
import Derived.KernelRfl
import Derived.Test.YtbicpeplenomhaaGreatDoorR21
import Derived.Test.YtbicpeplenomhaaGreatDoorR19
import Derived.Test.YtbicpeplenomhaaGreatDoorR20
set_option linter.unusedVariables false
set_option linter.unusedSimpArgs false
section
namespace Go.Am
open Go
def t145 (p q:AVal):IT:=
 .op (.conv .u32) [q] λv0=>.op (.int .leq) [v0,(.int .u32 2047)] λv1=>.cnd v1 (.op (.int .shr) [q,(.int .u64 6)] λv2=>.op (.conv .u8) [v2] λv3=>.op (.int .or) [(.int .u8 192),v3] λv4=>.op (.conv .u8) [q] λv5=>.op (.int .and) [v5,(.int .u8 63)] λv6=>.op (.int .or) [(.int .u8 128),v6] λv7=>.op (.mksl 1) [v4,v7] λv8=>.grow 1 1 p v8 λv9=>.ret .ret [v9]) (.op (.int .lss) [v0,(.int .u32 55296)] λv10=>.cnd v10 (.op (.int .shr) [q,(.int .u64 12)] λv11=>.op (.conv .u8) [v11] λv12=>.op (.int .or) [(.int .u8 224),v12] λv13=>.op (.int .shr) [q,(.int .u64 6)] λv14=>.op (.conv .u8) [v14] λv15=>.op (.int .and) [v15,(.int .u8 63)] λv16=>.op (.int .or) [(.int .u8 128),v16] λv17=>.op (.conv .u8) [q] λv18=>.op (.int .and) [v18,(.int .u8 63)] λv19=>.op (.int .or) [(.int .u8 128),v19] λv20=>.op (.mksl 1) [v13,v17,v20] λv21=>.grow 1 1 p v21 λv22=>.ret .ret [v22]) (.op (.int .lss) [(.int .u32 57343),v0] λv23=>.cnd v23 (.op (.int .leq) [v0,(.int .u32 65535)] λv24=>.cnd v24 (.op (.int .shr) [q,(.int .u64 12)] λv25=>.op (.conv .u8) [v25] λv26=>.op (.int .or) [(.int .u8 224),v26] λv27=>.op (.int .shr) [q,(.int .u64 6)] λv28=>.op (.conv .u8) [v28] λv29=>.op (.int .and) [v29,(.int .u8 63)] λv30=>.op (.int .or) [(.int .u8 128),v30] λv31=>.op (.conv .u8) [q] λv32=>.op (.int .and) [v32,(.int .u8 63)] λv33=>.op (.int .or) [(.int .u8 128),v33] λv34=>.op (.mksl 1) [v27,v31,v34] λv35=>.grow 1 1 p v35 λv36=>.ret .ret [v36]) (.op (.int .gtr) [v0,(.int .u32 65535)] λv37=>.cnd v37 (.op (.int .leq) [v0,(.int .u32 1114111)] λv38=>.cnd v38 (.op (.int .shr) [q,(.int .u64 18)] λv39=>.op (.conv .u8) [v39] λv40=>.op (.int .or) [(.int .u8 240),v40] λv41=>.op (.int .shr) [q,(.int .u64 12)] λv42=>.op (.conv .u8) [v42] λv43=>.op (.int .and) [v43,(.int .u8 63)] λv44=>.op (.int .or) [(.int .u8 128),v44] λv45=>.op (.int .shr) [q,(.int .u64 6)] λv46=>.op (.conv .u8) [v46] λv47=>.op (.int .and) [v47,(.int .u8 63)] λv48=>.op (.int .or) [(.int .u8 128),v48] λv49=>.op (.conv .u8) [q] λv50=>.op (.int .and) [v50,(.int .u8 63)] λv51=>.op (.int .or) [(.int .u8 128),v51] λv52=>.op (.mksl 1) [v41,v45,v49,v52] λv53=>.grow 1 1 p v53 λv54=>.ret .ret [v54]) (.op (.mksl 1) [(.int .u8 239),(.int .u8 191),(.int .u8 189)] λv55=>.grow 1 1 p v55 λv56=>.ret .ret [v56])) (.op (.mksl 1) [(.int .u8 239),(.int .u8 191),(.int .u8 189)] λv57=>.grow 1 1 p v57 λv58=>.ret .ret [v58]))) (.op (.int .gtr) [v0,(.int .u32 65535)] λv59=>.cnd v59 (.op (.int .leq) [v0,(.int .u32 1114111)] λv60=>.cnd v60 (.op (.int .shr) [q,(.int .u64 18)] λv61=>.op (.conv .u8) [v61] λv62=>.op (.int .or) [(.int .u8 240),v62] λv63=>.op (.int .shr) [q,(.int .u64 12)] λv64=>.op (.conv .u8) [v64] λv65=>.op (.int .and) [v65,(.int .u8 63)] λv66=>.op (.int .or) [(.int .u8 128),v66] λv67=>.op (.int .shr) [q,(.int .u64 6)] λv68=>.op (.conv .u8) [v68] λv69=>.op (.int .and) [v69,(.int .u8 63)] λv70=>.op (.int .or) [(.int .u8 128),v70] λv71=>.op (.conv .u8) [q] λv72=>.op (.int .and) [v72,(.int .u8 63)] λv73=>.op (.int .or) [(.int .u8 128),v73] λv74=>.op (.mksl 1) [v63,v67,v71,v74] λv75=>.grow 1 1 p v75 λv76=>.ret .ret [v76]) (.op (.mksl 1) [(.int .u8 239),(.int .u8 191),(.int .u8 189)] λv77=>.grow 1 1 p v77 λv78=>.ret .ret [v78])) (.op (.mksl 1) [(.int .u8 239),(.int .u8 191),(.int .u8 189)] λv79=>.grow 1 1 p v79 λv80=>.ret .ret [v80]))))
theorem t145_eq:Tq2 cx 145 t145:=λ_ _=>by kernel_rfl
def t146 (p q:AVal):IT:=
 .cells 4 p λc0=>.load none q λv1=>.op (.int .eql) [(g c0 0),v1] λv2=>.ret .ret [v2]
theorem t146_eq:Tq2 cx 146 t146:=λ_ _=>by kernel_rfl
def t147 (p q r:AVal):IT:=
 .cells 1 r λc0=>.call 173 [p,q,(.func (.func 183) [] [(.rptr [(g c0 0)])])] λv1=>.ret .ret [v1]
theorem t147_eq:Tq3 cx 147 t147:=λ_ _ _=>by kernel_rfl
def t148 (p q r:AVal):IT:=
 .cells 3 q λc0=>.op (.slc 3 false false true) [p,r] λv1=>.op (.append 3 48) [.slnil,v1] λv2=>.op (.mksl 3) [(.agg [(g c0 0),(g c0 1),(g c0 2)])] λv3=>.op (.append 3 48) [v2,v3] λv4=>.op (.slc 3 false true false) [p,r] λv5=>.op (.append 3 48) [v4,v5] λv6=>.ret .ret [v6]
theorem t148_eq:Tq3 cx 148 t148:=λ_ _ _=>by kernel_rfl
def t149 (p q:AVal):IT:=
 .mnew λv0=>.op (.mkagg [(I 0),(S []),(S [])] [(0,1),(1,1)]) [(I 4),(S [97,99,116,117,97,116,101])] λv1=>.mset v0 (S [120,108,105,110,107,58,97,99,116,117,97,116,101]) v1 (.op (.mkagg [(I 0),(S []),(S [])] [(0,1),(1,1)]) [(I 4),(S [97,114,99,114,111,108,101])] λv2=>.mset v0 (S [120,108,105,110,107,58,97,114,99,114,111,108,101]) v2 (.op (.mkagg [(I 0),(S []),(S [])] [(0,1),(1,1)]) [(I 4),(S [104,114,101,102])] λv3=>.mset v0 (S [120,108,105,110,107,58,104,114,101,102]) v3 (.op (.mkagg [(I 0),(S []),(S [])] [(0,1),(1,1)]) [(I 4),(S [114,111,108,101])] λv4=>.mset v0 (S [120,108,105,110,107,58,114,111,108,101]) v4 (.op (.mkagg [(I 0),(S []),(S [])] [(0,1),(1,1)]) [(I 4),(S [115,104,111,119])] λv5=>.mset v0 (S [120,108,105,110,107,58,115,104,111,119]) v5 (.op (.mkagg [(I 0),(S []),(S [])] [(0,1),(1,1)]) [(I 4),(S [116,105,116,108,101])] λv6=>.mset v0 (S [120,108,105,110,107,58,116,105,116,108,101]) v6 (.op (.mkagg [(I 0),(S []),(S [])] [(0,1),(1,1)]) [(I 4),(S [116,121,112,101])] λv7=>.mset v0 (S [120,108,105,110,107,58,116,121,112,101]) v7 (.op (.mkagg [(I 0),(S []),(S [])] [(0,1),(1,1)]) [(I 5),(S [108,97,110,103])] λv8=>.mset v0 (S [120,109,108,58,108,97,110,103]) v8 (.op (.mkagg [(I 0),(S []),(S [])] [(0,1),(1,1)]) [(I 5),(S [115,112,97,99,101])] λv9=>.mset v0 (S [120,109,108,58,115,112,97,99,101]) v9 (.op (.mkagg [(I 0),(S []),(S [])] [(0,1),(1,1)]) [(I 6),(S [120,109,108,110,115])] λv10=>.mset v0 (S [120,109,108,110,115]) v10 (.op (.mkagg [(I 0),(S []),(S [])] [(0,1),(1,1)]) [(I 6),(S [120,108,105,110,107])] λv11=>.mset v0 (S [120,109,108,110,115,58,120,108,105,110,107]) v11 (.op (.len false) [q] λv12=>.loop 4 [.slnil,(I 0)] (λc13=>.op (.int .lss) [(g c13 1),v12] λv14=>.cnd v14 (.op (.eaddr 3) [q,(g c13 1)] λv15=>.load (some 3) v15 λv16=>.cells 3 v16 λc17=>.op (.mkagg [(I 0),(S []),(S [])] [(1,1),(2,1)]) [(g c17 1),(g c17 2)] λv18=>.cells 3 v18 λc19=>.op (.int .eql) [p,(I 2)] λv20=>.join 100036 (.cnd v20 (.pcall 184 [(g c17 1)] λv21=>.cells 1 v21 λc22=>.ret .normal [(.agg [(g c19 0),(g c22 0),(g c19 2)])]) (.join 200009 (.op (.int .eql) [p,(I 3)] λv23=>.cnd v23 (.op (.str .eql) [(g c17 1),(S [100,101,102,105,110,105,116,105,111,110,117,114,108])] λv24=>.ret .normal [v24]) (.ret .normal [ff])) (λx c25=>match x with| .normal=>.join 100043 (.cnd (g c25 0) (.cells 1 (S [100,101,102,105,110,105,116,105,111,110,85,82,76]) λc26=>.ret .normal [(.agg [(g c19 0),(g c26 0),(g c19 2)])]) (.ret .normal [(.agg [(g c19 0),(g c19 1),(g c19 2)])])) (λx c27=>.cells 3 (g c27 0) λc28=>.ret x [(.agg [(g c28 0),(g c28 1),(g c28 2)])])| .exit i=>.ret (.exit i) [(.agg [(g c19 0),(g c19 1),(g c19 2)])]| .ret=>.ret .ret [(.agg [(g c19 0),(g c19 1),(g c19 2)])]))) (λx c29=>.cells 3 (g c29 0) λc30=>match x with| .normal=>.mget (.agg [(I 0),(S []),(S [])]) true v0 (g c30 1) λv31=>.op (.ext 0) [v31] λv32=>.op (.ext 1) [v31] λv33=>.cells 3 v32 λc34=>.join 200012 (.cnd v33 (.op (.int .eql) [p,(I 2)] λv35=>.cnd v35 (.ret .normal [tt]) (.op (.int .eql) [p,(I 3)] λv36=>.ret .normal [v36])) (.ret .normal [ff])) (λx c37=>match x with| .normal=>.join 100067 (.cnd (g c37 0) (.cells 1 (g c34 0) λc38=>.cells 1 (g c34 1) λc39=>.ret .normal [(.agg [(g c38 0),(g c39 0),(g c30 2)])]) (.ret .normal [(.agg [(g c30 0),(g c30 1),(g c30 2)])])) (λx c40=>.cells 3 (g c40 0) λc41=>match x with| .normal=>.op (.mksl 3) [(.agg [(g c41 0),(g c41 1),(g c41 2)])] λv42=>.op (.append 3 40) [(g c13 0),v42] λv43=>.op (.int .add) [(g c13 1),(I 1)] λv44=>.ret .normal [v43,v44]| .exit i=>if i=1 then .op (.int .add) [(g c13 1),(I 1)] λv45=>.ret .normal [(g c13 0),v45] else .ret (.exit i) [(g c13 0),(g c13 1)]| .ret=>.ret .ret [(g c13 0),(g c13 1)])| .exit i=>if i=1 then .op (.int .add) [(g c13 1),(I 1)] λv46=>.ret .normal [(g c13 0),v46] else .ret (.exit i) [(g c13 0),(g c13 1)]| .ret=>.ret .ret [(g c13 0),(g c13 1)])| .exit i=>if i=2 then .mget (.agg [(I 0),(S []),(S [])]) true v0 (g c30 1) λv47=>.op (.ext 0) [v47] λv48=>.op (.ext 1) [v47] λv49=>.cells 3 v48 λc50=>.join 200012 (.cnd v49 (.op (.int .eql) [p,(I 2)] λv51=>.cnd v51 (.ret .normal [tt]) (.op (.int .eql) [p,(I 3)] λv52=>.ret .normal [v52])) (.ret .normal [ff])) (λx c53=>match x with| .normal=>.join 100067 (.cnd (g c53 0) (.cells 1 (g c50 0) λc54=>.cells 1 (g c50 1) λc55=>.ret .normal [(.agg [(g c54 0),(g c55 0),(g c30 2)])]) (.ret .normal [(.agg [(g c30 0),(g c30 1),(g c30 2)])])) (λx c56=>.cells 3 (g c56 0) λc57=>match x with| .normal=>.op (.mksl 3) [(.agg [(g c57 0),(g c57 1),(g c57 2)])] λv58=>.op (.append 3 40) [(g c13 0),v58] λv59=>.op (.int .add) [(g c13 1),(I 1)] λv60=>.ret .normal [v59,v60]| .exit i=>if i=1 then .op (.int .add) [(g c13 1),(I 1)] λv61=>.ret .normal [(g c13 0),v61] else .ret (.exit i) [(g c13 0),(g c13 1)]| .ret=>.ret .ret [(g c13 0),(g c13 1)])| .exit i=>if i=1 then .op (.int .add) [(g c13 1),(I 1)] λv62=>.ret .normal [(g c13 0),v62] else .ret (.exit i) [(g c13 0),(g c13 1)]| .ret=>.ret .ret [(g c13 0),(g c13 1)]) else if i=1 then .op (.int .add) [(g c13 1),(I 1)] λv63=>.ret .normal [(g c13 0),v63] else .ret (.exit i) [(g c13 0),(g c13 1)]| .ret=>.ret .ret [(g c13 0),(g c13 1)])) (.ret (.exit 0) [(g c13 0),(g c13 1)])) (lx 0 (λc64=>.ret .ret [(g c64 0)]) λc64=>.ret .ret [.slnil]))))))))))))
theorem t149_eq:Tq2 cx 149 t149:=λ_ _=>by kernel_rfl
def t150 (p:AVal):IT:=
 .pcall 185 [p,(S [97,108,116,71,108,121,112,104,32,97,108,116,71,108,121,112,104,68,101,102,32,97,108,116,71,108,121,112,104,73,116,101,109,32,97,110,105,109,97,116,101,67,111,108,111,114,32,97,110,105,109,97,116,101,77,111,116,105,111,110,32,97,110,105,109,97,116,101,84,114,97,110,115,102,111,114,109,32,99,108,105,112,80,97,116,104,32,102,101,66,108,101,110,100,32,102,101,67,111,108,111,114,77,97,116,114,105,120,32,102,101,67,111,109,112,111,110,101,110,116,84,114,97,110,115,102,101,114,32,102,101,67,111,109,112,111,115,105,116,101,32,102,101,67,111,110,118,111,108,118,101,77,97,116,114,105,120,32,102,101,68,105,102,102,117,115,101,76,105,103,104,116,105,110,103,32,102,101,68,105,115,112,108,97,99,101,109,101,110,116,77,97,112,32,102,101,68,105,115,116,97,110,116,76,105,103,104,116,32,102,101,68,114,111,112,83,104,97,100,111,119,32,102,101,70,108,111,111,100,32,102,101,70,117,110,99,65,32,102,101,70,117,110,99,66,32,102,101,70,117,110,99,71,32,102,101,70,117,110,99,82,32,102,101,71,97,117,115,115,105,97,110,66,108,117,114,32,102,101,73,109,97,103,101,32,102,101,77,101,114,103,101,32,102,101,77,101,114,103,101,78,111,100,101,32,102,101,77,111,114,112,104,111,108,111,103,121,32,102,101,79,102,102,115,101,116,32,102,101,80,111,105,110,116,76,105,103,104,116,32,102,101,83,112,101,99,117,108,97,114,76,105,103,104,116,105,110,103,32,102,101,83,112,111,116,76,105,103,104,116,32,102,101,84,105,108,101,32,102,101,84,117,114,98,117,108,101,110,99,101,32,102,111,114,101,105,103,110,79,98,106,101,99,116,32,103,108,121,112,104,82,101,102,32,108,105,110,101,97,114,71,114,97,100,105,101,110,116,32,114,97,100,105,97,108,71,114,97,100,105,101,110,116,32,116,101,120,116,80,97,116,104])] λv0=>.ret .ret [v0]
theorem t150_eq:Tq1 cx 150 t150:=λ_=>by kernel_rfl
def t151 (p q r u w:AVal):IT:=
 .call 178 [p,q] λv0=>.op (.int .neq) [v0,(I 0)] λv1=>.cnd v1 (.ret .ret [(.tuple [(I 0),v0])]) (.call 119 [w] λv2=>.op (.ext 0) [v2] λv3=>.op (.ext 1) [v2] λv4=>.op (.un .not) [v4] λv5=>.cnd v5 (.ret .ret [(.tuple [(I 0),(I 2)])]) (.op (.mksl 1) [r] λv6=>.call 153 [v6] λv7=>.op (.un .not) [v7] λv8=>.cnd v8 (.ret .ret [(.tuple [(I 0),(I 2)])]) (.op (.mkagg [(I 0),(I 0),.slnil,(I 0),(I 0),(S []),.slnil,(S []),(S []),(S []),ff,(I 0),(I 0)] [(0,1),(3,1),(4,1),(5,1),(6,1)]) [(I 4),q,r,u,v3] λv9=>.call 114 [p,v9] λv10=>.call 55 [p,v10] λv11=>.call 100 [v11] λv12=>.cnd v12 (.call 186 [p,q] λv13=>.op (.mkagg [(I 0),(I 0),.slnil,(I 0),(I 0),(S []),.slnil,(S []),(S []),(S []),ff,(I 0),(I 0)] [(0,1),(12,1),(3,1)]) [(I 2),v10,v13] λv14=>.call 114 [p,v14] λv15=>.call 55 [p,v10] λv16=>.fa v16 0 λ_ v18=>.op (.faddr 11) [v18] λv19=>.store 1 v19 v15 (.ret .ret [(.tuple [v10,(I 0)])])) (.ret .ret [(.tuple [v10,(I 0)])]))))
theorem t151_eq:Tq5 cx 151 t151:=λ_ _ _ _ _=>by kernel_rfl
def t152 (p q:AVal):IT:=
 .call 58 [p,q] λv0=>.cells 13 v0 λc1=>.op (.int .neq) [(g c1 11),(I 0)] λv2=>.cnd v2 (.call 58 [p,(g c1 11)] λv3=>.cells 13 v3 λc4=>.op (.int .neq) [(g c4 3),(I 0)] λv5=>.cnd v5 (.ret .ret [(g c4 3)]) (.fld p 1 λ_ _ v8=>.ret .ret [v8])) (.op (.int .neq) [(g c1 3),(I 0)] λv9=>.cnd v9 (.ret .ret [(g c1 3)]) (.fld p 1 λ_ _ v12=>.ret .ret [v12]))
theorem t152_eq:Tq2 cx 152 t152:=λ_ _=>by kernel_rfl
def t153 (p:AVal):IT:=
 .op (.len false) [p] λv0=>.loop 2 [ff,(I 0)] (λc1=>.op (.int .lss) [(g c1 1),v0] λv2=>.cnd v2 (.op (.eaddr 1) [p,(g c1 1)] λv3=>.load none v3 λv4=>.op (.int .lss) [v4,(I 0)] λv5=>.cnd v5 (.ret .ret [ff,(g c1 1)]) (.op (.int .gtr) [v4,(I 7)] λv6=>.cnd v6 (.ret .ret [ff,(g c1 1)]) (.op (.int .add) [(g c1 1),(I 1)] λv7=>.ret .normal [(g c1 0),v7]))) (.ret (.exit 0) [(g c1 0),(g c1 1)])) (lx 0 (λc8=>.ret .ret [tt]) λc8=>.ret .ret [(g c8 0)])
theorem t153_eq:Tq1 cx 153 t153:=λ_=>by kernel_rfl
def t158 (p q:AVal):IT:=
 .cells 3 p λc0=>.cells 3 q λc1=>.op (.str .eql) [(g c0 1),(g c1 1)] λv2=>.cnd v2 (.op (.len false) [(g c0 2)] λv3=>.op (.len false) [(g c1 2)] λv4=>.op (.int .eql) [v3,v4] λv5=>.cnd v5 (.callv (.func (.func 188) [] []) [(g c0 2),(g c1 2)] λv6=>.cnd v6 (.callv (.func (.func 188) [] []) [(g c1 2),(g c0 2)] λv7=>.ret .ret [v7]) (.ret .ret [ff])) (.ret .ret [ff])) (.ret .ret [ff])
theorem t158_eq:Tq2 cx 158 t158:=λ_ _=>by kernel_rfl
def t159 (p q:AVal):IT:=
 .op (.slc 3 false false true) [p,q] λv0=>.op (.append 3 48) [.slnil,v0] λv1=>.op (.int .add) [q,(I 1)] λv2=>.op (.slc 3 false true false) [p,v2] λv3=>.op (.append 3 48) [v1,v3] λv4=>.ret .ret [v4]
theorem t159_eq:Tq2 cx 159 t159:=λ_ _=>by kernel_rfl
def t160 (p:AVal):IT:=
 .cells 3 p λc0=>.call 63 [(g c0 2)] λv1=>.cells 1 v1 λc2=>.cells 3 (.agg [(g c0 0),(g c0 1),(g c2 0)]) λc3=>.ret .ret [(.agg [(g c3 0),(g c3 1),(g c3 2)])]
theorem t160_eq:Tq1 cx 160 t160:=λ_=>by kernel_rfl
def t165 (p q r:AVal):IT:=
 .cells 4 q λc0=>.op (.slc 4 false false true) [p,r] λv1=>.op (.append 4 40) [.slnil,v1] λv2=>.op (.mksl 4) [(.agg [(g c0 0),(g c0 1),(g c0 2),(g c0 3)])] λv3=>.op (.append 4 40) [v2,v3] λv4=>.op (.slc 4 false true false) [p,r] λv5=>.op (.append 4 40) [v4,v5] λv6=>.ret .ret [v6]
theorem t165_eq:Tq3 cx 165 t165:=λ_ _ _=>by kernel_rfl
def t166 (p:AVal):IT:=
 .cells 3 p λc0=>.op (.int .eql) [(g c0 0),(I 0)] λv1=>.cnd v1 (.op (.str .eql) [(g c0 1),(S [101,110,99,111,100,105,110,103])] λv2=>.ret .ret [v2]) (.ret .ret [ff])
theorem t166_eq:Tq1 cx 166 t166:=λ_=>by kernel_rfl
def t167 (p q:AVal):IT:=
 .pcall 198 [p] λv0=>.pcall 198 [q] λv1=>.op (.str .eql) [v0,v1] λv2=>.ret .ret [v2]
theorem t167_eq:Tq2 cx 167 t167:=λ_ _=>by kernel_rfl
def t168 (p q:AVal):IT:=
 .cells 3 p λc0=>.fl q 0 λ_ v2=>.op (.int .eql) [v2,(g c0 0)] λv3=>.cnd v3 (.fl q 1 λ_ v5=>.op (.str .eql) [v5,(g c0 1)] λv6=>.ret .ret [v6]) (.ret .ret [ff])
theorem t168_eq:Tq2 cx 168 t168:=λ_ _=>by kernel_rfl
def t169 (p q:AVal):IT:=
 .op (.len false) [p] λv0=>.loop 2 [(I 0),(I 0)] (λc1=>.op (.int .lss) [(g c1 1),v0] λv2=>.cnd v2 (.op (.eaddr 1) [p,(g c1 1)] λv3=>.load none v3 λv4=>.op (.str .eql) [q,v4] λv5=>.cnd v5 (.ret .ret [(g c1 1),(g c1 1)]) (.op (.int .add) [(g c1 1),(I 1)] λv6=>.ret .normal [(g c1 0),v6])) (.ret (.exit 0) [(g c1 0),(g c1 1)])) (lx 0 (λc7=>.ret .ret [(I (-1))]) λc7=>.ret .ret [(g c7 0)])
theorem t169_eq:Tq2 cx 169 t169:=λ_ _=>by kernel_rfl
def t170:IT:=
 .op (.mkagg [(S []),(I 0)] [(0,1),(1,1)]) [(S [116,114]),(I 14)] λv0=>.op (.mkagg [(S []),(I 0)] [(0,1),(1,1)]) [(S [116,98,111,100,121]),(I 13)] λv1=>.op (.mkagg [(S []),(I 0)] [(0,1),(1,1)]) [(S [116,104,101,97,100]),(I 13)] λv2=>.op (.mkagg [(S []),(I 0)] [(0,1),(1,1)]) [(S [116,102,111,111,116]),(I 13)] λv3=>.op (.mkagg [(S []),(I 0)] [(0,1),(1,1)]) [(S [99,97,112,116,105,111,110]),(I 11)] λv4=>.op (.mkagg [(S []),(I 0)] [(0,1),(1,1)]) [(S [99,111,108,103,114,111,117,112]),(I 12)] λv5=>.op (.mkagg [(S []),(I 0)] [(0,1),(1,1)]) [(S [116,97,98,108,101]),(I 9)] λv6=>.op (.mkagg [(S []),(I 0)] [(0,1),(1,1)]) [(S [98,111,100,121]),(I 7)] λv7=>.op (.mkagg [(S []),(I 0)] [(0,1),(1,1)]) [(S [102,114,97,109,101,115,101,116]),(I 20)] λv8=>.op (.mksl 2) [v0,v1,v2,v3,v4,v5,v6,v7,v8] λv9=>.ret .ret [v9]
theorem t170_eq:afun cx 170 []=t170:=by kernel_rfl
def t171 (p q:AVal):IT:=
 .op (.int .sub) [q,(I 1)] λv0=>.loop 2 [(I 0),v0] (λc1=>.op (.int .geq) [(g c1 1),(I 0)] λv2=>.cnd v2 (.fa p 2 λ_ v4=>.call 42 [v4,(g c1 1)] λv5=>.op (.mksl 1) [(S [116,101,109,112,108,97,116,101])] λv6=>.call 72 [v5,v6] λv7=>.cnd v7 (.ret (.exit 0) [(g c1 0),(g c1 1)]) (.fa p 2 λ_ v9=>.call 42 [v9,(g c1 1)] λv10=>.op (.mksl 1) [(S [116,97,98,108,101])] λv11=>.call 72 [v10,v11] λv12=>.cnd v12 (.ret .ret [(I 17),(g c1 1)]) (.op (.int .sub) [(g c1 1),(I 1)] λv13=>.ret .normal [(g c1 0),v13]))) (.ret (.exit 0) [(g c1 0),(g c1 1)])) (lx 0 (λc14=>.ret .ret [(I 16)]) λc14=>.ret .ret [(g c14 0)])
theorem t171_eq:Tq2 cx 171 t171:=λ_ _=>by kernel_rfl
def t172 (p q r:AVal):IT:=
 .op (.len false) [p] λv0=>.mem (.chk3 3) [p,q,r,v0] λ_=>.op (.int .eql) [q,r] λv2=>.cnd v2 (.ret .ret [p]) (.op (.len false) [p] λv3=>.op (.slc 3 false false true) [p,q] λv4=>.op (.slc 3 false true false) [p,r] λv5=>.grow 3 48 v4 v5 λv6=>.op (.len false) [v6] λv7=>.mem (.deep 3 true true) [v6,v7,v3] λv8=>.mem (.clear 3 [(I 0),(S []),.slnil]) [v8] λ_=>.ret .ret [v6])
theorem t172_eq:Tq3 cx 172 t172:=λ_ _ _=>by kernel_rfl
def t173 (p q r:AVal):IT:=
 .cells 1 r λc0=>.call 199 [q] λv1=>.cells 1 v1 λc2=>.call 64 [p,(.func (.func 200) [] [(.rptr [(g c0 0)]),(.rptr [(g c2 0)])])] λv3=>.op (.int .geq) [v3,(I 0)] λv4=>.cnd v4 (.load none (.rptr [(g c0 0)]) λv5=>.fld p 0 λ_ _ v8=>.op (.eaddr 4) [v8,v3] λv9=>.load (some 4) v9 λv10=>.callv v5 [v10] λv11=>.ret .ret [v11]) (.ret .ret [ff])
theorem t173_eq:Tq3 cx 173 t173:=λ_ _ _=>by kernel_rfl
def t174 (p q:AVal):IT:=
 .cells 4 p λc0=>.load none q λv1=>.op (.int .eql) [(g c0 0),v1] λv2=>.ret .ret [v2]
theorem t174_eq:Tq2 cx 174 t174:=λ_ _=>by kernel_rfl
def t175 (p q r:AVal):IT:=
 .cells 4 r λc0=>.call 88 [p,q] λv1=>.op (.int .lss) [v1,(I 1)] λv2=>.cnd v2 (.frzAt 0 p (.ret .ret [ff])) (.fld p 0 λ_ _ v5=>.call 201 [v5] λv6=>.fa p 0 λ_ v8=>.store 1 v8 v6 (.fld p 0 λ_ _ v11=>.op (.eaddr 4) [v11,v1] λv12=>.store 4 v12 (.agg [(g c0 0),(g c0 1),(g c0 2),(g c0 3)]) (.frzAt 0 p (.ret .ret [tt]))))
theorem t175_eq:Tq3 cx 175 t175:=λ_ _ _=>by kernel_rfl
def t176 (p q r:AVal):IT:=
 .cells 3 r λc0=>.call 73 [p,q] λv1=>.op (.int .lss) [v1,(I 0)] λv2=>.cnd v2 (.frzAt 0 p (.ret .ret [ff])) (.fld p 0 λ_ _ v5=>.call 89 [v5] λv6=>.fa p 0 λ_ v8=>.store 1 v8 v6 (.fld p 0 λ_ v10 v11=>.call 160 [(.agg [(g c0 0),(g c0 1),(g c0 2)])] λv12=>.load none v10 λv13=>.same v11 v13 (.op (.eaddr 3) [v11,v1] λv14=>.store 3 v14 v12 (.frzAt 0 p (.ret .ret [tt])))))
theorem t176_eq:Tq3 cx 176 t176:=λ_ _ _=>by kernel_rfl
def t177 (p q:AVal):IT:=
 .op (.slc 4 false false true) [p,q] λv0=>.op (.append 4 40) [.slnil,v0] λv1=>.op (.int .add) [q,(I 1)] λv2=>.op (.slc 4 false true false) [p,v2] λv3=>.op (.append 4 40) [v1,v3] λv4=>.ret .ret [v4]
theorem t177_eq:Tq2 cx 177 t177:=λ_ _=>by kernel_rfl
def t178 (p q:AVal):IT:=
 .op (.mksl 1) [q] λv0=>.call 54 [p,v0] λv1=>.op (.int .neq) [v1,(I 0)] λv2=>.cnd v2 (.ret .ret [v1]) (.call 55 [p,q] λv3=>.fa v3 0 λ_ v5=>.fl v5 0 λ_ v7=>.op (.int .neq) [v7,(I 1)] λv8=>.cnd v8 (.ret .ret [(I 9)]) (.ret .ret [(I 0)]))
theorem t178_eq:Tq2 cx 178 t178:=λ_ _=>by kernel_rfl
def t179 (p q:AVal):IT:=
 .op (.len false) [p] λv0=>.loop 2 [(I 0),(I 0)] (λc1=>.op (.int .lss) [(g c1 1),v0] λv2=>.cnd v2 (.op (.eaddr 1) [p,(g c1 1)] λv3=>.load none v3 λv4=>.callv q [v4] λv5=>.cnd v5 (.ret .ret [(g c1 1),(g c1 1)]) (.op (.int .add) [(g c1 1),(I 1)] λv6=>.ret .normal [(g c1 0),v6])) (.ret (.exit 0) [(g c1 0),(g c1 1)])) (lx 0 (λc7=>.ret .ret [(I (-1))]) λc7=>.ret .ret [(g c7 0)])
theorem t179_eq:Tq2 cx 179 t179:=λ_ _=>by kernel_rfl
def t181 (p q:AVal):IT:=
 .call 55 [p,q] λv0=>.fa v0 0 λ_ v2=>.fl v2 1 λ_ v4=>.op (.int .eql) [v4,(I 0)] λv5=>.cnd v5 (.ret .ret [(.tuple [])]) (.fa v0 0 λ_ v7=>.fl v7 1 λ_ v9=>.call 55 [p,v9] λv10=>.fa v10 0 λ_ v12=>.fl v12 2 λ_ v14=>.call 83 [v14,q] λv15=>.fa v10 0 λ_ v17=>.fl v17 2 λ_ v19=>.op (.int .add) [v15,(I 1)] λv20=>.call 203 [v19,v15,v20] λv21=>.fa v10 0 λ_ v23=>.op (.faddr 2) [v23] λv24=>.store 1 v24 v21 (.fa v0 0 λ_ v26=>.op (.faddr 1) [v26] λv27=>.store 1 v27 (I 0) (.ret .ret [(.tuple [])])))
theorem t181_eq:Tq2 cx 181 t181:=λ_ _=>by kernel_rfl
def t183 (p q:AVal):IT:=
 .cells 4 p λc0=>.load none q λv1=>.call 66 [(.agg [(g c0 0),(g c0 1),(g c0 2),(g c0 3)]),v1] λv2=>.ret .ret [v2]
theorem t183_eq:Tq2 cx 183 t183:=λ_ _=>by kernel_rfl
def t184 (p:AVal):IT:=
 .pcall 185 [p,(S [97,116,116,114,105,98,117,116,101,78,97,109,101,32,97,116,116,114,105,98,117,116,101,84,121,112,101,32,98,97,115,101,70,114,101,113,117,101,110,99,121,32,98,97,115,101,80,114,111,102,105,108,101,32,99,97,108,99,77,111,100,101,32,99,108,105,112,80,97,116,104,85,110,105,116,115,32,100,105,102,102,117,115,101,67,111,110,115,116,97,110,116,32,101,100,103,101,77,111,100,101,32,102,105,108,116,101,114,85,110,105,116,115,32,103,108,121,112,104,82,101,102,32,103,114,97,100,105,101,110,116,84,114,97,110,115,102,111,114,109,32,103,114,97,100,105,101,110,116,85,110,105,116,115,32,107,101,114,110,101,108,77,97,116,114,105,120,32,107,101,114,110,101,108,85,110,105,116,76,101,110,103,116,104,32,107,101,121,80,111,105,110,116,115,32,107,101,121,83,112,108,105,110,101,115,32,107,101,121,84,105,109,101,115,32,108,101,110,103,116,104,65,100,106,117,115,116,32,108,105,109,105,116,105,110,103,67,111,110,101,65,110,103,108,101,32,109,97,114,107,101,114,72,101,105,103,104,116,32,109,97,114,107,101,114,85,110,105,116,115,32,109,97,114,107,101,114,87,105,100,116,104,32,109,97,115,107,67,111,110,116,101,110,116,85,110,105,116,115,32,109,97,115,107,85,110,105,116,115,32,110,117,109,79,99,116,97,118,101,115,32,112,97,116,104,76,101,110,103,116,104,32,112,97,116,116,101,114,110,67,111,110,116,101,110,116,85,110,105,116,115,32,112,97,116,116,101,114,110,84,114,97,110,115,102,111,114,109,32,112,97,116,116,101,114,110,85,110,105,116,115,32,112,111,105,110,116,115,65,116,88,32,112,111,105,110,116,115,65,116,89,32,112,111,105,110,116,115,65,116,90,32,112,114,101,115,101,114,118,101,65,108,112,104,97,32,112,114,101,115,101,114,118,101,65,115,112,101,99,116,82,97,116,105,111,32,112,114,105,109,105,116,105,118,101,85,110,105,116,115,32,114,101,102,88,32,114,101,102,89,32,114,101,112,101,97,116,67,111,117,110,116,32,114,101,112,101,97,116,68,117,114,32,114,101,113,117,105,114,101,100,69,120,116,101,110,115,105,111,110,115,32,114,101,113,117,105,114,101,100,70,101,97,116,117,114,101,115,32,115,112,101,99,117,108,97,114,67,111,110,115,116,97,110,116,32,115,112,101,99,117,108,97,114,69,120,112,111,110,101,110,116,32,115,112,114,101,97,100,77,101,116,104,111,100,32,115,116,97,114,116,79,102,102,115,101,116,32,115,116,100,68,101,118,105,97,116,105,111,110,32,115,116,105,116,99,104,84,105,108,101,115,32,115,117,114,102,97,99,101,83,99,97,108,101,32,115,121,115,116,101,109,76,97,110,103,117,97,103,101,32,116,97,98,108,101,86,97,108,117,101,115,32,116,97,114,103,101,116,88,32,116,97,114,103,101,116,89,32,116,101,120,116,76,101,110,103,116,104,32,118,105,101,119,66,111,120,32,118,105,101,119,84,97,114,103,101,116,32,120,67,104,97,110,110,101,108,83,101,108,101,99,116,111,114,32,121,67,104,97,110,110,101,108,83,101,108,101,99,116,111,114,32,122,111,111,109,65,110,100,80,97,110])] λv0=>.ret .ret [v0]
theorem t184_eq:Tq1 cx 184 t184:=λ_=>by kernel_rfl
def t185 (p q:AVal):IT:=
 .call 206 [q] λv0=>.op (.len false) [v0] λv1=>.loop 2 [(S []),(I 0)] (λc2=>.op (.int .lss) [(g c2 1),v1] λv3=>.cnd v3 (.op (.eaddr 1) [v0,(g c2 1)] λv4=>.load none v4 λv5=>.pcall 198 [v5] λv6=>.op (.str .eql) [v6,p] λv7=>.cnd v7 (.ret .ret [v5,(g c2 1)]) (.op (.int .add) [(g c2 1),(I 1)] λv8=>.ret .normal [(g c2 0),v8])) (.ret (.exit 0) [(g c2 0),(g c2 1)])) (lx 0 (λc9=>.ret .ret [p]) λc9=>.ret .ret [(g c9 0)])
theorem t185_eq:Tq2 cx 185 t185:=λ_ _=>by kernel_rfl
def t186 (p q:AVal):IT:=
 .fld p 1 λ_ _ v2=>.mem (.getI (I 0) true) [v2,q] λv3=>.op (.ext 0) [v3] λv4=>.op (.ext 1) [v3] λv5=>.cnd v5 (.ret .ret [v4]) (.call 50 [p,ff] λv6=>.fld p 1 λ_ _ v9=>.op (.nileq false .mp) [v9,(.map none)] λv10=>.cnd v10 (.mnew λv11=>.fa p 1 λ_ v13=>.store 1 v13 v11 (.fld p 1 λ_ _ v16=>.fld p 1 λ_ _ v19=>.mem (.entryI (I 0)) [v16,q] λv20=>.op (.ext 1) [v20] λv21=>.mem .storeI [v16,v21,v6] λ_=>.mem (.entryI (I 0)) [v19,v6] λv23=>.op (.ext 1) [v23] λv24=>.mem .storeI [v19,v24,v6] λ_=>.ret .ret [v6])) (.fld p 1 λ_ _ v28=>.fld p 1 λ_ _ v31=>.mem (.entryI (I 0)) [v28,q] λv32=>.op (.ext 1) [v32] λv33=>.mem .storeI [v28,v33,v6] λ_=>.mem (.entryI (I 0)) [v31,v6] λv35=>.op (.ext 1) [v35] λv36=>.mem .storeI [v31,v36,v6] λ_=>.ret .ret [v6]))
theorem t186_eq:Tq2 cx 186 t186:=λ_ _=>by kernel_rfl
def t188 (p q:AVal):IT:=
 .cells 1 q λc0=>.call 59 [p,(.func (.func 189) [] [(.rptr [(g c0 0)])])] λv1=>.op (.un .not) [v1] λv2=>.ret .ret [v2]
theorem t188_eq:Tq2 cx 188 t188:=λ_ _=>by kernel_rfl
def t189 (p q:AVal):IT:=
 .cells 3 p λc0=>.load none q λv1=>.call 190 [v1,(.agg [(g c0 0),(g c0 1),(g c0 2)])] λv2=>.op (.un .not) [v2] λv3=>.ret .ret [v3]
theorem t189_eq:Tq2 cx 189 t189:=λ_ _=>by kernel_rfl
def t190 (p q:AVal):IT:=
 .cells 3 q λc0=>.call 207 [p,(.agg [(g c0 0),(g c0 1),(g c0 2)])] λv1=>.op (.int .geq) [v1,(I 0)] λv2=>.ret .ret [v2]
theorem t190_eq:Tq2 cx 190 t190:=λ_ _=>by kernel_rfl
def t198 (p:AVal):IT:=
 .bytesObj p λv0=>.op (.len false) [v0] λv1=>.loop 3 [(I 0)] (λc2=>.op (.int .lss) [(g c2 0),v1] λv3=>.cnd v3 (.op (.eaddr 1) [v0,(g c2 0)] λv4=>.load none v4 λv5=>.op (.conv .i32) [v5] λv6=>.pcall 216 [v6] λv7=>.cnd v7 (.op (.int .sub) [v5,(.int .u8 65)] λv8=>.op (.int .add) [v8,(.int .u8 97)] λv9=>.op (.eaddr 1) [v0,(g c2 0)] λv10=>.store 1 v10 v9 (.op (.int .add) [(g c2 0),(I 1)] λv11=>.ret .normal [v11])) (.op (.int .add) [(g c2 0),(I 1)] λv12=>.ret .normal [v12])) (.ret (.exit 0) [(g c2 0)])) (lx 0 (λc13=>.frz v0 λv14=>.op .b2s [v14] λv15=>.ret .ret [v15]) λc13=>.ret .ret [(S [])])
theorem t198_eq:Tq1 cx 198 t198:=λ_=>by kernel_rfl
def t199 (p:AVal):IT:=
 .cells 1 p λc0=>.op (.int .eql) [(g c0 0),(I 4)] λv1=>.cnd v1 (.ret .ret [(.func (.func 217) [] [])]) (.op (.int .eql) [(g c0 0),(I 5)] λv2=>.cnd v2 (.ret .ret [(.func (.func 218) [] [])]) (.ret .ret [(.func (.func 219) [] [(.rptr [(g c0 0)])])]))
theorem t199_eq:Tq1 cx 199 t199:=λ_=>by kernel_rfl
def t200 (p q r:AVal):IT:=
 .cells 4 p λc0=>.load none q λv1=>.callv v1 [(.agg [(g c0 0),(g c0 1),(g c0 2),(g c0 3)])] λv2=>.cnd v2 (.ret .ret [tt]) (.load none r λv3=>.callv v3 [(.agg [(g c0 0),(g c0 1),(g c0 2),(g c0 3)])] λv4=>.ret .ret [v4])
theorem t200_eq:Tq3 cx 200 t200:=λ_ _ _=>by kernel_rfl
def t201 (p:AVal):IT:=
 .op (.nileq false .sl) [p,.slnil] λv0=>.cnd v0 (.ret .ret [.slnil]) (.op (.mksl 4) [] λv1=>.objOf 4 40 v1 p λv2=>.ret .ret [v2])
theorem t201_eq:Tq1 cx 201 t201:=λ_=>by kernel_rfl
def t203 (p q r:AVal):IT:=
 .op (.len false) [p] λv0=>.mem (.chk3 1) [p,q,r,v0] λ_=>.op (.int .eql) [q,r] λv2=>.cnd v2 (.ret .ret [p]) (.op (.len false) [p] λv3=>.op (.slc 1 false false true) [p,q] λv4=>.op (.slc 1 false true false) [p,r] λv5=>.grow 1 8 v4 v5 λv6=>.op (.len false) [v6] λv7=>.mem (.deep 1 true true) [v6,v7,v3] λv8=>.mem (.clear 1 [(I 0)]) [v8] λ_=>.ret .ret [v6])
theorem t203_eq:Tq3 cx 203 t203:=λ_ _ _=>by kernel_rfl
def t206 (p:AVal):IT:=
 .loop 5 [(I 0),(I 1),(.int .u8 0),(I 0)] (λc0=>.op (.len true) [p] λv1=>.op (.int .lss) [(g c0 3),v1] λv2=>.cnd v2 (.op .sidx [p,(g c0 3)] λv3=>.op (.int .or) [(g c0 2),v3] λv4=>.op (.aaddr 256 1) [(.rptr spaceCells),v3] λv5=>.load none v5 λv6=>.op (.conv .i64) [v6] λv7=>.op (.un .xor) [v7] λv8=>.op (.int .and) [(g c0 1),v8] λv9=>.op (.int .add) [(g c0 0),v9] λv10=>.op (.int .add) [(g c0 3),(I 1)] λv11=>.ret .normal [v10,v7,v4,v11]) (.ret (.exit 0) [(g c0 0),(g c0 1),(g c0 2),(g c0 3)])) (lx 0 (λc12=>.op (.int .geq) [(g c12 2),(.int .u8 128)] λv13=>.cnd v13 (.call 222 [p,(.func (.func 223) [] [])] λv14=>.frz v14 λv15=>.ret .ret [v15]) (.make 1 16 [(S [])] (g c12 0) (g c12 0) λv16=>.loop 18 [(I 0)] (λc17=>.op (.len true) [p] λv18=>.op (.int .lss) [(g c17 0),v18] λv19=>.cnd v19 (.op .sidx [p,(g c17 0)] λv20=>.op (.aaddr 256 1) [(.rptr spaceCells),v20] λv21=>.load none v21 λv22=>.op (.int .neq) [v22,(.int .u8 0)] λv23=>.cnd v23 (.op (.int .add) [(g c17 0),(I 1)] λv24=>.ret .normal [v24]) (.ret (.exit 2) [(g c17 0)])) (.ret (.exit 2) [(g c17 0)])) (lx 2 (λc25=>.loop 21 [(I 0),(g c25 0),(g c25 0)] (λc26=>.op (.len true) [p] λv27=>.op (.int .lss) [(g c26 2),v27] λv28=>.cnd v28 (.op .sidx [p,(g c26 2)] λv29=>.op (.aaddr 256 1) [(.rptr spaceCells),v29] λv30=>.load none v30 λv31=>.op (.int .eql) [v31,(.int .u8 0)] λv32=>.cnd v32 (.op (.int .add) [(g c26 2),(I 1)] λv33=>.ret .normal [(g c26 0),(g c26 1),v33]) (.op (.slc 0 true true true) [p,(g c26 1),(g c26 2)] λv34=>.op (.eaddr 1) [v16,(g c26 0)] λv35=>.store 1 v35 v34 (.op (.int .add) [(g c26 0),(I 1)] λv36=>.op (.int .add) [(g c26 2),(I 1)] λv37=>.loop 27 [v37] (λc38=>.op (.len true) [p] λv39=>.op (.int .lss) [(g c38 0),v39] λv40=>.cnd v40 (.op .sidx [p,(g c38 0)] λv41=>.op (.aaddr 256 1) [(.rptr spaceCells),v41] λv42=>.load none v42 λv43=>.op (.int .neq) [v43,(.int .u8 0)] λv44=>.cnd v44 (.op (.int .add) [(g c38 0),(I 1)] λv45=>.ret .normal [v45]) (.ret (.exit 6) [(g c38 0)])) (.ret (.exit 6) [(g c38 0)])) (λx c46=>match x with| .normal=>.fail| .exit i=>if i=6 then .ret .normal [v36,(g c46 0),(g c46 0)] else if i=5 then .ret .normal [v36,(g c26 1),(g c46 0)] else .ret (.exit i) [v36,(g c26 1),(g c46 0)]| .ret=>.ret .ret [v36,(g c26 1),(g c46 0)])))) (.ret (.exit 4) [(g c26 0),(g c26 1),(g c26 2)])) (lx 4 (λc47=>.op (.len true) [p] λv48=>.op (.int .lss) [(g c47 1),v48] λv49=>.cnd v49 (.op (.slc 0 true true false) [p,(g c47 1)] λv50=>.op (.eaddr 1) [v16,(g c47 0)] λv51=>.store 1 v51 v50 (.frz v16 λv52=>.ret .ret [v52])) (.frz v16 λv53=>.ret .ret [v53])) λc47=>.frz .slnil λv54=>.ret .ret [v54])) λc25=>.frz .slnil λv55=>.ret .ret [v55]))) λc12=>.frz .slnil λv56=>.ret .ret [v56])
theorem t206_eq:Tq1 cx 206 t206:=λ_=>by kernel_rfl
def t207 (p q:AVal):IT:=
 .cells 3 q λc0=>.op (.len false) [p] λv1=>.loop 2 [(I 0),(I 0)] (λc2=>.op (.int .lss) [(g c2 1),v1] λv3=>.cnd v3 (.op (.eaddr 3) [p,(g c2 1)] λv4=>.load (some 3) v4 λv5=>.op (.geq false [.i,.s,.s]) [(.agg [(g c0 0),(g c0 1),(g c0 2)]),v5] λv6=>.cnd v6 (.ret .ret [(g c2 1),(g c2 1)]) (.op (.int .add) [(g c2 1),(I 1)] λv7=>.ret .normal [(g c2 0),v7])) (.ret (.exit 0) [(g c2 0),(g c2 1)])) (lx 0 (λc8=>.ret .ret [(I (-1))]) λc8=>.ret .ret [(g c8 0)])
theorem t207_eq:Tq2 cx 207 t207:=λ_ _=>by kernel_rfl
def t216 (p:AVal):IT:=
 .call 228 [(.int .i32 65),(.int .i32 90)] λv0=>.callv v0 [p] λv1=>.ret .ret [v1]
theorem t216_eq:Tq1 cx 216 t216:=λ_=>by kernel_rfl
def t217 (p:AVal):IT:=
 .cells 4 p λc0=>.op (.mksl 1) [(S [104,116,109,108]),(S [116,97,98,108,101]),(S [116,101,109,112,108,97,116,101])] λv1=>.call 66 [(.agg [(g c0 0),(g c0 1),(g c0 2),(g c0 3)]),v1] λv2=>.ret .ret [v2]
theorem t217_eq:Tq1 cx 217 t217:=λ_=>by kernel_rfl
def t218 (p:AVal):IT:=
 .cells 4 p λc0=>.op (.mksl 1) [(S [111,112,116,103,114,111,117,112]),(S [111,112,116,105,111,110])] λv1=>.call 66 [(.agg [(g c0 0),(g c0 1),(g c0 2),(g c0 3)]),v1] λv2=>.op (.un .not) [v2] λv3=>.ret .ret [v3]
theorem t218_eq:Tq1 cx 218 t218:=λ_=>by kernel_rfl
def t219 (p q:AVal):IT:=
 .cells 4 p λc0=>.op (.int .eql) [(g c0 1),(I 3)] λv1=>.cnd v1 (.pcall 78 [(g c0 1),(g c0 2)] λv2=>.ret .ret [v2]) (.op (.int .eql) [(g c0 1),(I 2)] λv3=>.cnd v3 (.pcall 78 [(g c0 1),(g c0 2)] λv4=>.ret .ret [v4]) (.op (.mksl 1) [(S [97,112,112,108,101,116]),(S [99,97,112,116,105,111,110]),(S [104,116,109,108]),(S [109,97,114,113,117,101,101]),(S [111,98,106,101,99,116]),(S [116,97,98,108,101]),(S [116,100]),(S [116,101,109,112,108,97,116,101]),(S [116,104])] λv5=>.call 66 [(.agg [(g c0 0),(g c0 1),(g c0 2),(g c0 3)]),v5] λv6=>.cnd v6 (.ret .ret [tt]) (.load none q λv7=>.op (.int .eql) [v7,(I 2)] λv8=>.cnd v8 (.op (.mksl 1) [(S [111,108]),(S [117,108])] λv9=>.call 66 [(.agg [(g c0 0),(g c0 1),(g c0 2),(g c0 3)]),v9] λv10=>.cnd v10 (.ret .ret [tt]) (.load none q λv11=>.op (.int .eql) [v11,(I 3)] λv12=>.cnd v12 (.op (.mksl 1) [(S [98,117,116,116,111,110])] λv13=>.call 66 [(.agg [(g c0 0),(g c0 1),(g c0 2),(g c0 3)]),v13] λv14=>.ret .ret [v14]) (.ret .ret [ff]))) (.load none q λv15=>.op (.int .eql) [v15,(I 3)] λv16=>.cnd v16 (.op (.mksl 1) [(S [98,117,116,116,111,110])] λv17=>.call 66 [(.agg [(g c0 0),(g c0 1),(g c0 2),(g c0 3)]),v17] λv18=>.ret .ret [v18]) (.ret .ret [ff])))))
theorem t219_eq:Tq2 cx 219 t219:=λ_ _=>by kernel_rfl
def t222 (p q:AVal):IT:=
 .make 2 16 [(I 0),(I 0)] (I 0) (I 32) λ_=>.fail
theorem t222_eq:Tq2 cx 222 t222:=λ_ _=>by kernel_rfl
def t228 (p q:AVal):IT:=
 .cells 1 p λc0=>.cells 1 q λc1=>.ret .ret [(.func (.func 238) [] [(.rptr [(g c0 0)]),(.rptr [(g c1 0)])])]
theorem t228_eq:Tq2 cx 228 t228:=λ_ _=>by kernel_rfl
def t238 (p q r:AVal):IT:=
 .load none q λv0=>.op (.int .leq) [v0,p] λv1=>.cnd v1 (.load none r λv2=>.op (.int .leq) [p,v2] λv3=>.ret .ret [v3]) (.ret .ret [ff])
theorem t238_eq:Tq3 cx 238 t238:=λ_ _ _=>by kernel_rfl
def t100063 (p:AVal):IT:=
 .op (.nileq false .sl) [p,.slnil] λv0=>.cnd v0 (.ret .ret [.slnil]) (.op (.mksl 3) [] λv1=>.objOf 3 40 v1 p λv2=>.ret .ret [v2])
theorem t100063_eq:Tq1 cx 100063 t100063:=λ_=>by kernel_rfl
end Go.Am
end
section
set_option maxRecDepth 100000
namespace Go.Am
open Go
abbrev Ent:=List AVal→Option IT
def ent0 (g:IT):Ent:=λl=>match l with
 |[]=>some (g)
 |_=>none
def ent1 (g:AVal→IT):Ent:=λl=>match l with
 |[a0]=>some (g a0)
 |_=>none
def ent2 (g:AVal→AVal→IT):Ent:=λl=>match l with
 |[a0,a1]=>some (g a0 a1)
 |_=>none
def ent3 (g:AVal→AVal→AVal→IT):Ent:=λl=>match l with
 |[a0,a1,a2]=>some (g a0 a1 a2)
 |_=>none
def ent4 (g:AVal→AVal→AVal→AVal→IT):Ent:=λl=>match l with
 |[a0,a1,a2,a3]=>some (g a0 a1 a2 a3)
 |_=>none
def ent5 (g:AVal→AVal→AVal→AVal→AVal→IT):Ent:=λl=>match l with
 |[a0,a1,a2,a3,a4]=>some (g a0 a1 a2 a3 a4)
 |_=>none
def EntOk (f:Nat) (g:Ent):Prop:=∀l t,g l=some t→t=afun cx f l
theorem entOk0 {f:Nat} {g:IT} (h:afun cx f []=g):EntOk f (ent0 g):=by
 intro l t ht;unfold ent0 at ht;split at ht
 ·cases ht;exact(h).symm
 ·cases ht
theorem entOk1 {f:Nat} {g:AVal→IT} (h:∀a0,afun cx f [a0]=g a0):EntOk f (ent1 g):=by
 intro l t ht;unfold ent1 at ht;split at ht
 ·cases ht;exact(h _).symm
 ·cases ht
theorem entOk2 {f:Nat} {g:AVal→AVal→IT} (h:∀a0 a1,afun cx f [a0,a1]=g a0 a1):EntOk f (ent2 g):=by
 intro l t ht;unfold ent2 at ht;split at ht
 ·cases ht;exact(h _ _).symm
 ·cases ht
theorem entOk3 {f:Nat} {g:AVal→AVal→AVal→IT} (h:∀a0 a1 a2,afun cx f [a0,a1,a2]=g a0 a1 a2):EntOk f (ent3 g):=by
 intro l t ht;unfold ent3 at ht;split at ht
 ·cases ht;exact(h _ _ _).symm
 ·cases ht
theorem entOk4 {f:Nat} {g:AVal→AVal→AVal→AVal→IT} (h:∀a0 a1 a2 a3,afun cx f [a0,a1,a2,a3]=g a0 a1 a2 a3):EntOk f (ent4 g):=by
 intro l t ht;unfold ent4 at ht;split at ht
 ·cases ht;exact(h _ _ _ _).symm
 ·cases ht
theorem entOk5 {f:Nat} {g:AVal→AVal→AVal→AVal→AVal→IT} (h:∀a0 a1 a2 a3 a4,afun cx f [a0,a1,a2,a3,a4]=g a0 a1 a2 a3 a4):EntOk f (ent5 g):=by
 intro l t ht;unfold ent5 at ht;split at ht
 ·cases ht;exact(h _ _ _ _ _).symm
 ·cases ht
def table:List (Nat×Ent):=[(13,ent1 t13),(14,ent2 t14),(15,ent2 t15),(22,ent1 t22),(23,ent2 t23),(26,ent2 t26),(28,ent2 t28),(29,ent1 t29),(31,ent2 t31),(33,ent2 t33),(36,ent2 t36),(38,ent2 t38),(41,ent2 t41),(42,ent2 t42),(46,ent2 t46),(47,ent1 t47),(49,ent0 t49),(50,ent2 t50),(51,ent3 t51),(52,ent2 t52),(53,ent3 t53),(54,ent2 t54),(55,ent2 t55),(56,ent1 t56),(57,ent1 t57),(58,ent2 t58),(59,ent2 t59),(62,ent1 t62),(63,ent1 t63),(64,ent2 t64),(65,ent2 t65),(66,ent2 t66),(70,ent1 t70),(72,ent2 t72),(73,ent2 t73),(74,ent1 t74),(75,ent2 t75),(76,ent2 t76),(77,ent2 t77),(78,ent2 t78),(80,ent2 t80),(82,ent4 t82),(83,ent2 t83),(84,ent2 t84),(85,ent3 t85),(86,ent3 t86),(87,ent1 t87),(88,ent2 t88),(89,ent1 t89),(90,ent1 t90),(91,ent1 t91),(97,ent4 t97),(100,ent1 t100),(110,ent2 t110),(111,ent1 t111),(114,ent2 t114),(115,ent2 t115),(116,ent3 t116),(117,ent4 t117),(118,ent2 t118),(119,ent1 t119),(120,ent2 t120),(121,ent3 t121),(124,ent1 t124),(126,ent1 t126),(127,ent3 t127),(128,ent2 t128),(129,ent3 t129),(130,ent3 t130),(131,ent2 t131),(132,ent4 t132),(133,ent3 t133),(134,ent2 t134),(135,ent3 t135),(136,ent2 t136),(137,ent1 t137),(138,ent2 t138),(139,ent2 t139),(141,ent3 t141),(142,ent2 t142),(143,ent2 t143),(144,ent4 t144),(145,ent2 t145),(146,ent2 t146),(148,ent3 t148),(149,ent2 t149),(150,ent1 t150),(151,ent5 t151),(152,ent2 t152),(153,ent1 t153),(158,ent2 t158),(159,ent2 t159),(160,ent1 t160),(165,ent3 t165),(166,ent1 t166),(167,ent2 t167),(168,ent2 t168),(169,ent2 t169),(170,ent0 t170),(171,ent2 t171),(172,ent3 t172),(173,ent3 t173),(174,ent2 t174),(175,ent3 t175),(176,ent3 t176),(177,ent2 t177),(178,ent2 t178),(179,ent2 t179),(181,ent2 t181),(184,ent1 t184),(185,ent2 t185),(186,ent2 t186),(188,ent2 t188),(189,ent2 t189),(190,ent2 t190),(198,ent1 t198),(199,ent1 t199),(200,ent3 t200),(201,ent1 t201),(203,ent3 t203),(206,ent1 t206),(207,ent2 t207),(216,ent1 t216),(217,ent1 t217),(218,ent1 t218),(219,ent2 t219),(222,ent2 t222),(228,ent2 t228),(238,ent3 t238),(100063,ent1 t100063)]
def AllOk:List (Nat×Ent)→Prop
 |[]=>True
 |(f,g)::l=>EntOk f g∧AllOk l
theorem table_ok:AllOk table:=
 ⟨entOk1 t13_eq,entOk2 t14_eq,entOk2 t15_eq,entOk1 t22_eq,entOk2 t23_eq,entOk2 t26_eq,entOk2 t28_eq,entOk1 t29_eq,entOk2 t31_eq,entOk2 t33_eq,entOk2 t36_eq,entOk2 t38_eq,entOk2 t41_eq,entOk2 t42_eq,entOk2 t46_eq,entOk1 t47_eq,entOk0 t49_eq,entOk2 t50_eq,entOk3 t51_eq,entOk2 t52_eq,entOk3 t53_eq,entOk2 t54_eq,entOk2 t55_eq,entOk1 t56_eq,entOk1 t57_eq,entOk2 t58_eq,entOk2 t59_eq,entOk1 t62_eq,entOk1 t63_eq,entOk2 t64_eq,entOk2 t65_eq,entOk2 t66_eq,entOk1 t70_eq,entOk2 t72_eq,entOk2 t73_eq,entOk1 t74_eq,entOk2 t75_eq,entOk2 t76_eq,entOk2 t77_eq,entOk2 t78_eq,entOk2 t80_eq,entOk4 t82_eq,entOk2 t83_eq,entOk2 t84_eq,entOk3 t85_eq,entOk3 t86_eq,entOk1 t87_eq,entOk2 t88_eq,entOk1 t89_eq,entOk1 t90_eq,entOk1 t91_eq,entOk4 t97_eq,entOk1 t100_eq,entOk2 t110_eq,entOk1 t111_eq,entOk2 t114_eq,entOk2 t115_eq,entOk3 t116_eq,entOk4 t117_eq,entOk2 t118_eq,entOk1 t119_eq,entOk2 t120_eq,entOk3 t121_eq,entOk1 t124_eq,entOk1 t126_eq,entOk3 t127_eq,entOk2 t128_eq,entOk3 t129_eq,entOk3 t130_eq,entOk2 t131_eq,entOk4 t132_eq,entOk3 t133_eq,entOk2 t134_eq,entOk3 t135_eq,entOk2 t136_eq,entOk1 t137_eq,entOk2 t138_eq,entOk2 t139_eq,entOk3 t141_eq,entOk2 t142_eq,entOk2 t143_eq,entOk4 t144_eq,entOk2 t145_eq,entOk2 t146_eq,entOk3 t148_eq,entOk2 t149_eq,entOk1 t150_eq,entOk5 t151_eq,entOk2 t152_eq,entOk1 t153_eq,entOk2 t158_eq,entOk2 t159_eq,entOk1 t160_eq,entOk3 t165_eq,entOk1 t166_eq,entOk2 t167_eq,entOk2 t168_eq,entOk2 t169_eq,entOk0 t170_eq,entOk2 t171_eq,entOk3 t172_eq,entOk3 t173_eq,entOk2 t174_eq,entOk3 t175_eq,entOk3 t176_eq,entOk2 t177_eq,entOk2 t178_eq,entOk2 t179_eq,entOk2 t181_eq,entOk1 t184_eq,entOk2 t185_eq,entOk2 t186_eq,entOk2 t188_eq,entOk2 t189_eq,entOk2 t190_eq,entOk1 t198_eq,entOk1 t199_eq,entOk3 t200_eq,entOk1 t201_eq,entOk3 t203_eq,entOk1 t206_eq,entOk2 t207_eq,entOk1 t216_eq,entOk1 t217_eq,entOk1 t218_eq,entOk2 t219_eq,entOk2 t222_eq,entOk2 t228_eq,entOk3 t238_eq,entOk1 t100063_eq,trivial⟩
def look (f:Nat):List (Nat×Ent)→List AVal→Option IT
 |[],_=>none
 |(k,g)::l,args=>if Nat.beq k f then g args else look f l args
theorem look_ok {f:Nat} {args:List AVal} {t:IT}:∀{l:List (Nat×Ent)},AllOk l→look f l args=some t→t=afun cx f args
 |[],_,h=>by cases h
 |(k,g)::l,ha,h=>by
  simp only[look] at h;split at h
  ·rename_i hk;have hk:k=f:=Nat.eq_of_beq_eq_true hk;subst hk;exact ha.1 _ _ h
  ·exact look_ok ha.2 h
noncomputable def tab (f:FuncId) (args:List AVal):IT:=match look f table args with
 |some t=>t
 |none=>afun cx f args
theorem tab_eq:tab=afun cx:=by
 funext f args;unfold tab;split
 ·rename_i t h;exact look_ok table_ok h
 ·rfl
def saysTrue:Option Res→Bool
 |some (.ret,[.bool true],_)=>true
 |_=>false
theorem saysTrue_spec {r:Option Res} (h:saysTrue r=true):∃h',r=some (.ret,[.bool true],h'):=by
 unfold saysTrue at h;split at h
 ·exact⟨_,rfl⟩
 ·cases h
theorem Ev_of_tab {f:FuncId} {args:List AVal} {h:AHeap} (n:Nat) (hr:saysTrue (IT.run tab n (tab f args) h)=true):Ev cx f args h λr _=>r= .bool true:=by obtain⟨h',e⟩:=saysTrue_spec hr;rw[tab_eq] at e;exact⟨n,_,_,_,e,rfl,_,rfl,rfl⟩
end Go.Am
end
section
namespace Go.Am
open Go
set_option maxRecDepth 100000
section
theorem f227 (s:Bytes):PRet cx 137 [.str s] (.bool (decide (s∈implieds))):=by rw[wout,t137_eq];rw[show t137 (.str s)=sw s (.ret .ret [tt]) (.ret .ret [ff]) implieds from rfl,W_sw];exact⟨λh=>by simp[h],λh=>by simp[h]⟩
section
variable {Q:Post} {h:AHeap} {k:AVal→IT} {s:Bytes}
@[simp] theorem f227_iff:W cx (.pcall 137 [.str s] k) Q h↔W cx (k (.bool (decide (s∈implieds)))) Q h:=(f227 s).pcall rfl rfl
end
theorem f234 (s:Bytes):PRet cx 123 [.str s] (.bool (decide (s∈thoroughs∨s∈implieds))):=by rw[wout,t123_eq];rw[show t123 (.str s)=sw s (.ret .ret [tt]) (.pcall 137 [.str s] λv=> .ret .ret [v]) thoroughs from rfl,W_sw];exact⟨λh=>by simp[h],λh=>by simp[h]⟩
theorem f228 (n:Int) (s:Bytes):PRet cx 139 [.int .i64 n,.str s] (.bool (decide (n=3∧s∈mathPoints))):=by
 rw[wout,t139_eq,t139];by_cases h:n=3
 ·simp[h,mathPoints];by_cases h1:s=[109,105]<;>by_cases h2:s=[109,110]<;>by_cases h3:s=[109,111]<;>by_cases h4:s=[109,115]<;>simp[h1,h2,h3,h4]
 ·simp[h]
section
variable {Q:Post} {h:AHeap} {k:AVal→IT} {s:Bytes} {n:Int}
@[simp] theorem f234_iff:W cx (.pcall 123 [.str s] k) Q h↔W cx (k (.bool (decide (s∈thoroughs∨s∈implieds)))) Q h:=(f234 s).pcall rfl rfl
@[simp] theorem f228_iff:W cx (.pcall 139 [.int .i64 n,.str s] k) Q h↔W cx (k (.bool (decide (n=3∧s∈mathPoints)))) Q h:=(f228 n s).pcall rfl rfl
end
theorem f139 (n:Int) (s:Bytes):PRet cx 78 [.int .i64 n,.str s] (.bool (isSpecial n s)):=by
 rw[wout,t78_eq];rw[show t78 (.int .i64 n) (.str s)= .op (.int .eql) [.int .i64 n,I 3] λv=> .cnd v (.op (.str .eql) [.str s,S [97,110,110,111,116,97,116,105,111,110,45,120,109,108]] λv=> .cnd v (.ret .ret [tt]) (.pcall 139 [.int .i64 n,.str s] λv=> .ret .ret [v]))
  (.op (.int .eql) [.int .i64 n,I 2] λv=> .cnd v (sw s (.ret .ret [tt]) (.op (.str .eql) [.str s,S [116,105,116,108,101]] λv=> .ret .ret [v]) [[100,101,115,99],[102,111,114,101,105,103,110,79,98,106,101,99,116]])
  (.op (.int .eql) [.int .i64 n,I 1] λv=> .cnd v (sw s (.ret .ret [tt]) (.ret .ret [ff]) specials) (.ret .ret [ff]))) from rfl]
 by_cases h3:n=3
 ·by_cases h:s=[97,110,110,111,116,97,116,105,111,110,45,120,109,108]<;>simp[h3,isSpecial,h]
 ·by_cases h2:n=2
  ·by_cases ha:s=[100,101,115,99]<;>by_cases hb:s=[102,111,114,101,105,103,110,79,98,106,101,99,116]<;>simp[h2,W_sw,isSpecial,svgPoints,ha,hb]
  ·by_cases h1:n=1
   ·by_cases h:s∈specials<;>simp[h1,W_sw,isSpecial,h]
   ·simp[h3,h2,h1,isSpecial]
section
variable {Q:Post} {h:AHeap} {k:AVal→IT} {s:Bytes} {n:Int}
@[simp] theorem f139_iff:W cx (.pcall 78 [.int .i64 n,.str s] k) Q h↔W cx (k (.bool (isSpecial n s))) Q h:=(f139 n s).pcall rfl rfl
end
end
section
end
section
section
variable {Q:Post} {h:AHeap} {k:AVal→IT} {s:Bytes}
end
section
variable {Q:Post} {h:AHeap} {k:AVal→IT} {s:Bytes} {n:Int}
end
end
section
theorem f300 (a b:Int) (h:AHeap):Ret cx 228 [.int .i32 a,.int .i32 b] h (.func (.func 238) [] [.rptr [.int .i32 a],.rptr [.int .i32 b]]) h:=by rw[ret_iff,t228_eq,t228];simp only[amS]
theorem f311 (c a b:Int) (h:AHeap):Ret cx 238 [.int .i32 c,.rptr [.int .i32 a],.rptr [.int .i32 b]] h (.bool (decide (a≤c∧c≤b))) h:=by rw[ret_iff,t238_eq,t238];simp only[amS];refine⟨λh=>by simp[h],λh=>by simp[h]⟩
theorem f286 (c:Int):PRet cx 216 [.int .i32 c] (.bool (decide (65≤c∧c≤90))):=by rw[wout,t216_eq,t216];simp only[amS,Nat.reduceLeDiff,↓reduceIte,(f300 _ _ _).call,targetOf,(f311 _ _ _ _).call]
theorem f258 (s:Bytes) (hs:s.length≤maxBytes):PRet cx 198 [.str s] (.str (lower s)):=by
 have hs':s.length≤140737488355328:=hs;rw[wout,t198_eq,t198];have e1:hbytesObj [] (.str s)=some ([.cells ((halfLow s 0).map byteV)],.msl 0 0 s.length 1):=by simp only[hbytesObj,hs,if_true];rfl
 have e2:peval (.len false) [.msl 0 0 s.length 1]=some (.int .i64 (s.length:Int)):=rfl;simp only[amS,e1,e2];refine W_loop_st (λn:Nat=>[.int .i64 (n:Int)]) (λn h=>n≤s.length∧h=[.cells ((halfLow s n).map byteV)]) (λn=>s.length-n) 0 rfl ⟨Nat.zero_le _,rfl⟩ ?_;rintro n h ⟨hn,rfl⟩;rcases Nat.lt_or_ge n s.length with hlt|hge
 ·have i1:(n:Int)<(s.length:Int):=by omega
  have e3:peval (.eaddr 1) [.msl 0 0 s.length 1,.int .i64 (n:Int)]=some (.ptr (some (0,n))):=by simp[peval,elemOf,idxOf,hlt]
  have e4:hload [.cells ((halfLow s n).map byteV)] none (.ptr (some (0,n)))=some (.int .u8 (s[n].toNat:Int)):=hload_cell (by rw[List.getElem?_map,halfLow_at hlt];rfl);have e5:IntKind.i32.wrap (s[n].toNat:Int)=(s[n].toNat:Int):=wrap_i32 (by have:=s[n].toNat_lt;omega);simp only[amS,i1,not_true_eq_false,true_implies,false_implies,e3,e4,pe_conv,e5,(f286 _).pcall rfl rfl,pe_inc (show n<9223372036854775807 by omega)];refine⟨λhe=>?_,λhe=>?_⟩
  ·have hup:65≤s[n].toNat∧s[n].toNat≤90:=by omega
   have e6:hstore [.cells ((halfLow s n).map byteV)] 1 (.ptr (some (0,n))) (.int .u8 ((s[n].toNat:Int)-65+97))=some [.cells (((halfLow s n).map byteV).set n (.int .u8 ((s[n].toNat:Int)-65+97)))]:=hstore_cell (by rw[List.length_map,halfLow_length];exact hlt) rfl;simp only[amS,pe_sub,pe_add,wrap_u8 (show 0≤((s[n].toNat:Int)-65)∧((s[n].toNat:Int)-65)≤255 by omega),wrap_u8 (show 0≤((s[n].toNat:Int)-65+97)∧((s[n].toNat:Int)-65+97)≤255 by omega),e6];refine LoopPost.next (n+1) rfl ⟨hlt,?_⟩ (by omega);rw[halfLow_succ hlt,List.map_set];have e7:byteV (lowerByte s[n])= .int .u8 ((s[n].toNat:Int)-65+97):=by unfold byteV;rw[lowerByte_up hup];congr 1;omega
   rw[e7]
  ·have hno:¬(65≤s[n].toNat∧s[n].toNat≤90):=by omega
   refine LoopPost.next (n+1) rfl ⟨hlt,?_⟩ (by omega);rw[halfLow_succ hlt,lowerByte_no hno,set_same (halfLow_at hlt)]
 ·have i1:¬(n:Int)<(s.length:Int):=by omega
  have en:n=s.length:=by omega
  subst en;have e8:hfrz [.cells ((halfLow s s.length).map byteV)] (.msl 0 0 s.length 1)=some ([.dead],.sl 1 (rowsOf (lower s))):=by
   have hl:(lower s).length=s.length:=by simp[lower]
   rw[halfLow_all];simp only[hfrz,List.getElem?_cons_zero];rw[if_pos (by simp[hl])];rw[rowsFrom_bytes (lower s) s.length 0 (by omega)];simp
  simp only[amS,i1,not_false_eq_true,true_implies,false_implies,e8,IsSl.b2s (s:=lower s) .mk]
end
section
def FieldsOk (l:Bytes) (ws:List Bytes):Prop:=Ev cx 206 [.str l] [] λr _=>r= .sl 1 (ws.map strRow)
theorem fields_of_run {l:Bytes} {ws:List Bytes} (n:Nat) (hr:(IT.run tab n (tab 206 [.str l]) []).map (λx=>(x.1,x.2.1))=some (.ret,[.sl 1 (ws.map strRow)])):FieldsOk l ws:=by
 obtain⟨⟨x,vs,h⟩,e1,e2⟩:=Option.map_eq_some_iff.1 hr
 cases e2
 rw[tab_eq] at e1;exact⟨n,_,_,_,e1,rfl,_,rfl,rfl⟩
theorem f236 {l:Bytes} {ws:List Bytes} (hf:FieldsOk l ws) (hw:∀w∈ws,w.length≤maxBytes) (hn:ws.length<9223372036854775807) (name:Bytes):PRet cx 185 [.str name,.str l] (.str (adjustedIn name ws)):=by
 rw[wout,t185_eq,t185];refine W_call (hf.mono λr h1 e=>?_);subst e;have hsl:IsSl 1 (ws.map strRow) (.sl 1 (ws.map strRow)):= .mk;simp only[amS,hsl.len];refine W_loop_st (λn:Nat=>[.str [],.int .i64 (n:Int)]) (λn _=>n≤ws.length∧adjustedIn name ws=adjustedIn name (ws.drop n)) (λn=>ws.length-n) 0 rfl ⟨Nat.zero_le _,rfl⟩ ?_;rintro n h ⟨hn',ha⟩;rcases Nat.lt_or_ge n ws.length with hlt|hge
 ·have i1:(n:Int)<((ws.map strRow).length:Int):=by simp;omega
  have hlt':n<(ws.map strRow).length:=by simpa using hlt
  have e1:(ws.map strRow)[n]=[.str ws[n]]:=by simp[strRow]
  rw[List.drop_eq_getElem_cons hlt,adjustedIn] at ha;simp only[amS,i1,not_true_eq_false,true_implies,false_implies,hsl.eaddr hlt',e1,(f258 ws[n] (hw _ (List.getElem_mem hlt))).pcall rfl rfl,pe_inc (show n<9223372036854775807 by omega)];refine⟨λhe=>?_,λhe=>?_⟩
  ·rw[ha,if_pos he]
  ·rw[if_neg he] at ha;exact LoopPost.next (n+1) rfl ⟨hlt,ha⟩ (by omega)
 ·have i1:¬(n:Int)<((ws.map strRow).length:Int):=by simp;omega
  rw[List.drop_of_length_le hge,adjustedIn] at ha;simp only[amS,i1,not_false_eq_true,true_implies,false_implies,ha]
theorem fields_svgNames:FieldsOk cSvgNames rSvgNames:=fields_of_run 5000 (by kernel_rfl)
theorem fields_svgAttrs:FieldsOk cSvgAttrs rSvgAttrs:=fields_of_run 5000 (by kernel_rfl)
theorem f151 (s:Bytes):PRet cx 150 [.str s] (.str (adjustedIn s rSvgNames)):=by rw[wout,t150_eq,show t150 (.str s)= .pcall 185 [.str s,.str cSvgNames] λv=> .ret .ret [v] from rfl];rw[(f236 (l:=cSvgNames) fields_svgNames (by decide+kernel) (by decide+kernel) s).pcall rfl rfl];simp only[amS]
theorem f235 (s:Bytes):PRet cx 184 [.str s] (.str (adjustedIn s rSvgAttrs)):=by rw[wout,t184_eq,show t184 (.str s)= .pcall 185 [.str s,.str cSvgAttrs] λv=> .ret .ret [v] from rfl];rw[(f236 (l:=cSvgAttrs) fields_svgAttrs (by decide+kernel) (by decide+kernel) s).pcall rfl rfl];simp only[amS]
end
section
theorem f187 {v:AVal} {l:List Attr} (hv:IsAttrs l v) (hn:l.length<9223372036854775807) (h:AHeap) {f:FuncId} {p:Attr→Bool} (hp:∀a∈l,Ret cx f [.agg a.row] h (.bool (p a)) h) (hf:f≤99999):
  Ret cx 118 [v,.func (.func f) [] []] h (.int .i64 (idxFrom p 0 l)) h:=by
 rw[ret_iff,t118_eq,t118];have hlen:(l.map Attr.row).length=l.length:=List.length_map ..;simp only[amS,IsSl.len hv];refine W_loop_st (λn:Nat=>[.int .i64 0,.int .i64 (n:Int)]) (λn h1=>n≤l.length∧idxFrom p 0 l=idxFrom p n (l.drop n)∧h1=h) (λn=>l.length-n) 0 rfl ⟨Nat.zero_le _,rfl,rfl⟩ ?_;rintro n h1 ⟨hn',ha,rfl⟩;rcases Nat.lt_or_ge n l.length with hlt|hge
 ·have i1:(n:Int)<((l.map Attr.row).length:Int):=by rw[hlen];omega
  have e1:(l.map Attr.row)[n]'(by rw[hlen];exact hlt)=Attr.row l[n]:=by simp
  have e2:partOf (Attr.row l[n]) 0 (some 3)=some (.agg (Attr.row l[n])):=by simp[Attr.row]
  rw[List.drop_eq_getElem_cons hlt,idxFrom] at ha;simp only[amS,↓reduceIte,targetOf,hf,List.append_nil,i1,not_true_eq_false,true_implies,false_implies,IsSl.eaddr hv (show n<(l.map Attr.row).length by rw[hlen];exact hlt),e1,e2,(hp _ (List.getElem_mem hlt)).call];rw[cndW_iff];refine⟨λhe=>?_,λhe=>?_⟩
  ·rw[ha,if_pos he]
  ·rw[if_neg (by simp[he])] at ha;simp only[amS,pe_inc (show n<9223372036854775807 by omega)];exact LoopPost.next (n+1) rfl ⟨hlt,ha,rfl⟩ (by omega)
 ·have i1:¬(n:Int)<((l.map Attr.row).length:Int):=by rw[hlen];omega
  rw[List.drop_of_length_le hge,idxFrom] at ha;simp only[amS,↓reduceIte,targetOf,hf,i1,not_false_eq_true,true_implies,false_implies,ha]
theorem f188 (a:Attr) (h:AHeap):Ret cx 166 [.agg a.row] h (.bool (isEnc a)) h:=by rw[ret_iff,t166_eq,t166,Attr.row];simp only[amS,isEnc];refine⟨λh=>by simp[h],λh=>by simp[h]⟩
theorem f189 (a b:Bytes) (ha:a.length≤maxBytes) (hb:b.length≤maxBytes):PRet cx 167 [.str a,.str b] (.bool (decide (lower a=lower b))):=by rw[wout,t167_eq,t167];simp only[amS,(f258 a ha).pcall rfl rfl,(f258 b hb).pcall rfl rfl]
theorem f96 {v:AVal} {l:List Attr} (hv:IsAttrs l v) (hl:∀a∈l,a.value.length≤maxBytes) (hn:l.length<9223372036854775807) (n:Int) (s:Bytes) (h:AHeap):Ret cx 116 [.int .i64 n,.str s,v] h (.bool (htmlPoint n s l)) h:=by
 rw[ret_iff,t116_eq,t116];simp only[amS,f139_iff,(f187 hv hn h (λa _=>f188 a h) (by decide)).call,htmlPoint];refine⟨λh2=>by simp[h2],λh2=>⟨λh3=>by simp[h2,h3],λh3=>⟨λh4=>by simp[h2,h3,h4],λh4=>?_⟩⟩⟩;rw[if_neg h2,if_neg h3,if_neg h4];rcases idxFrom_find (p:=isEnc) (l:=l) (k:=0) with⟨h5,h6⟩|⟨k,a,h5,h6,h7⟩
 ·rw[h5,h6];simp
 ·rw[h5,h7,Nat.zero_add];obtain⟨hk,e⟩:=List.getElem?_eq_some_iff.1 h6;have hk':k<(l.map Attr.row).length:=by simpa using hk
  have e1:(l.map Attr.row)[k]=Attr.row a:=by simp[e]
  have i1:(0:Int)≤(k:Int):=by omega
  have hval:a.value.length≤maxBytes:=hl a (e▸List.getElem_mem hk);have e2:lower wHtml=wHtml:=lower_const (by decide+kernel);have e3:lower wXhtml=wXhtml:=lower_const (by decide+kernel);simp only[amS,i1,not_true_eq_false,true_implies,false_implies,IsSl.eaddr hv hk',e1,Attr.row,(f189 a.value wHtml hval (by decide)).pcall rfl rfl,(f189 a.value wXhtml hval (by decide)).pcall rfl rfl,e2,e3];refine⟨λh=>by simp[h],λh=>by simp[h]⟩
end
end Go.Am
end
section
namespace Go.Am
open Go
set_option maxRecDepth 100000
section
section
variable {α:Type} {f:α→List AVal} {l l2:List α} {v v2:AVal} {z b:Nat} {k k2:IntKind}
end
section
variable {h:AHeap} {p:AVal} {l:List Item}
theorem f104 (hs:SAt h p l):Ret cx 29 [p] h (.int .i64 (l.length:Int)) h:=by
 rw[ret_iff,t29_eq,t29];rcases hs with⟨rfl,rfl⟩|⟨id,o,v,rfl,hc,hv⟩
 ·simp
 ·simp only[amS,bne_self_eq_false,hc.load,Nat.add_zero,hv.lenM]
theorem f113 (hs:SAt h p l) (i:Int):Ret cx 42 [p,.int .i64 i] h (.agg (itemAt l i).row) h:=by
 rw[ret_iff,t42_eq,t42];simp only[amS,↓reduceIte,fillAt,(f104 hs).call];refine⟨λhi=>by rw[itemAt_out (.inl hi)];simp[Item.row,Item.zero],λhi=>⟨λhl=>by rw[itemAt_out (.inr hl)];simp[Item.row,Item.zero],λhl=>?_⟩⟩;rcases hs with⟨rfl,rfl⟩|⟨id,o,v,rfl,hc,hv⟩
 ·simp at hl;omega
 ·obtain⟨n,rfl⟩:=Int.eq_ofNat_of_zero_le (show 0≤i by omega);have hn:n<l.length:=by omega
  simp only[amS,Nat.reduceLeDiff,↓reduceIte,itS,hc.load,Nat.add_zero,hv.eaddrM hn,itemAt_lt hn]
theorem f39 (hs:SAt h p l) (hn:l.length≤1000000000):Ret cx 111 [p] h (.agg (topOf l).row) h:=by rw[ret_iff,t111_eq,t111];simp only[amS,itS,(f104 hs).call,pe_subI (show -9223372036854775808≤(l.length:Int)-1 by omega) (show(l.length:Int)-1<9223372036854775808 by omega),(f113 hs _).call,topOf]
def Asks (F:AVal) (h:AHeap) (q:Item→Bool):Prop:=∃f caps,F= .func (.func f) [] caps∧f≤99999∧∀a:Item,Ret cx f (.agg a.row::caps) h (.bool (q a)) h
theorem Asks.callv {F:AVal} {q:Item→Bool} (hF:Asks F h q) (a:Item) {k:AVal→IT} {Q:Post}:W cx (.callv F [.agg a.row] k) Q h↔W cx (k (.bool (q a))) Q h:=by obtain⟨f,caps,rfl,hf,hr⟩:=hF;rw[W_callv_iff];simp only[targetOf,hf,↓reduceIte,List.nil_append,List.cons_append,opW_some,(hr a).call]
theorem f201 (hs:SAt h p l) (hn:l.length≤1000000000) {F:AVal} {q:Item→Bool} (hF:Asks F h q):Ret cx 64 [p,F] h (.int .i64 (lastIdx q l)) h:=by
 obtain⟨f,caps,rfl,hf,hr⟩:=hF;rw[ret_iff,t64_eq,t64];simp only[amS,(f104 hs).call,pe_subI (show -9223372036854775808≤(l.length:Int)-1 by omega) (show(l.length:Int)-1<9223372036854775808 by omega)];refine W_loop_st (λn:Nat=>[.int .i64 0,.int .i64 ((n:Int)-1)]) (λn h1=>n≤l.length∧lastIdx q l=lastIdx q (l.take n)∧h1=h) (λn=>n) l.length rfl ⟨Nat.le_refl _,by rw[List.take_length],rfl⟩ ?_;rintro n h1 ⟨hn',ha,rfl⟩
 cases n with
 |zero=>
  have i1:¬(0:Int)≤((0:Nat):Int)-1:=by omega
  rw[ha];simp only[amS,↓reduceIte,targetOf,hf,i1,not_false_eq_true,true_implies,false_implies,lastIdx_nil]
 |succ n=>
  have i1:(0:Int)≤((n+1:Nat):Int)-1:=by omega
  have i2:((n+1:Nat):Int)-1=(n:Int):=by omega
  rcases hs with⟨rfl,rfl⟩|⟨id,o,v,rfl,hc,hv⟩
  ·simp at hn'
  ·rw[lastIdx_take (by omega)] at ha;simp only[amS,Nat.reduceLeDiff,↓reduceIte,targetOf,itS,hf,i2,show(0:Int)≤(n:Int) by omega,not_true_eq_false,true_implies,false_implies,hc.load,Nat.add_zero,hv.eaddrM (show n<l.length by omega),(hr l[n]).call,pe_subI (show -9223372036854775808≤(n:Int)-1 by omega) (show(n:Int)-1<9223372036854775808 by omega)];rw[cndW_iff];refine⟨λhe=>?_,λhe=>?_⟩
   ·rw[ha,if_pos he]
   ·rw[if_neg (by simp[he])] at ha;exact LoopPost.next n rfl ⟨by omega,ha,rfl⟩ (by omega)
theorem f200 {v:AVal} {ws:List Bytes} (hv:IsStrs ws v) (hn:ws.length≤1000000000) (s:Bytes) (h:AHeap):Ret cx 169 [v,.str s] h (.int .i64 (idxFrom (λw=>decide (s=w)) 0 ws)) h:=by
 rw[ret_iff,t169_eq,t169];have hv:IsSl 1 (ws.map strRow) v:=hv;simp only[amS,hv.lenM];refine W_loop_st (λn:Nat=>[.int .i64 0,.int .i64 (n:Int)]) (λn h1=>n≤ws.length∧idxFrom (λw=>decide (s=w)) 0 ws=idxFrom (λw=>decide (s=w)) n (ws.drop n)∧h1=h) (λn=>ws.length-n) 0 rfl ⟨Nat.zero_le _,rfl,rfl⟩ ?_;rintro n h1 ⟨hn',ha,rfl⟩;rcases Nat.lt_or_ge n ws.length with hlt|hge
 ·have i1:(n:Int)<(ws.length:Int):=by omega
  rw[List.drop_eq_getElem_cons hlt,idxFrom] at ha;simp only[amS,i1,not_true_eq_false,true_implies,false_implies,hv.eaddrM hlt,strRow,pe_inc (show n<9223372036854775807 by omega)];refine⟨λhe=>?_,λhe=>?_⟩
  ·rw[ha,if_pos (by simpa using he)]
  ·rw[if_neg (by simpa using he)] at ha;exact LoopPost.next (n+1) rfl ⟨hlt,ha,rfl⟩ (by omega)
 ·have i1:¬(n:Int)<(ws.length:Int):=by omega
  rw[List.drop_of_length_le hge,idxFrom] at ha;simp only[amS,i1,not_false_eq_true,true_implies,false_implies,ha]
theorem f114 {v:AVal} {ws:List Bytes} (hv:IsStrs ws v) (hn:ws.length≤1000000000) (s:Bytes) (h:AHeap):Ret cx 120 [v,.str s] h (.bool (decide (s∈ws))) h:=by rw[ret_iff,t120_eq,t120];simp only[amS,(f200 hv hn s h).call,idx_has]
theorem f149 {v:AVal} {ws:List Bytes} (hv:IsStrs ws v) (hn:ws.length≤1000000000) (a:Item) (h:AHeap):Ret cx 66 [.agg a.row,v] h (.bool (isOne ws a)) h:=by rw[ret_iff,t66_eq,t66];simp only[amS,itS,(f114 hv hn _ h).call,isOne];refine⟨λh1=>by simp[h1],λh1=>by simp[h1]⟩
theorem f289 (a:Item) (h:AHeap):Ret cx 217 [.agg a.row] h (.bool (isOne rTables a)) h:=by rw[ret_iff,t217_eq,t217];simp only[amS,itS,mk_rTables,(f149 (ws:=rTables) isStrs_of (by decide) a h).call]
theorem f290 (a:Item) (h:AHeap):Ret cx 218 [.agg a.row] h (.bool (!isOne rSelects a)) h:=by rw[ret_iff,t218_eq,t218];simp only[amS,itS,mk_rSelects,(f149 (ws:=rSelects) isStrs_of (by decide) a h).call]
theorem f291 (n:Int) (h4:n≠4) (h5:n≠5) (a:Item) (h:AHeap):Ret cx 219 [.agg a.row,.rptr [.int .i64 n]] h (.bool (ends n a)) h:=by have b1:=f149 (ws:=rBounds) isStrs_of (by decide) a h;have b2:=f149 (ws:=rLists) isStrs_of (by decide) a h;have b3:=f149 (ws:=[[98,117,116,116,111,110]]) isStrs_of (by decide) a h;rw[ret_iff,t219_eq,t219];simp only[amS,itS,f139_iff,mk_rBounds,mk_rLists,mk_button,b1.call,b2.call,b3.call,ends,h4,h5];refine⟨λh1=>by simp[h1],λh1=>⟨λh2=>by simp[h2],λh2=>?_⟩⟩;rw[cndW_iff];simp only[h1,h2,or_self,if_false];refine⟨λh3=>by simp[h3],λh3=>⟨λh6=>?_,λh6=>⟨λh7=>by simp[h3,h7],λh7=>by simp[h3,h6,h7]⟩⟩⟩;rw[cndW_iff];exact⟨λh7=>by simp[h3,h6,h7],λh7=>⟨λh8=>by omega,λh8=>by simp[h3,h7,h8]⟩⟩
theorem f264 (n:Int) (h:AHeap):∃F,Ret cx 199 [.int .i64 n] h F h∧Asks F h (ends n)∧F.cells=[F]:=by
 by_cases h4:n=4
 ·refine⟨.func (.func 217) [] [],?_,⟨_,_,rfl,by decide,λa=>?_⟩,rfl⟩
  ·rw[ret_iff,t199_eq,t199];simp only[amS,h4,not_true_eq_false,true_implies,false_implies]
  ·have:=f289 a h;simpa[ends,h4] using this
 ·by_cases h5:n=5
  ·refine⟨.func (.func 218) [] [],?_,⟨_,_,rfl,by decide,λa=>?_⟩,rfl⟩
   ·rw[ret_iff,t199_eq,t199];simp only[amS,h5,not_true_eq_false,true_implies,false_implies];simp
   ·have:=f290 a h;simpa[ends,h5] using this
  ·refine⟨.func (.func 219) [] [.rptr [.int .i64 n]],?_,⟨_,_,rfl,by decide,λa=>f291 n h4 h5 a h⟩,rfl⟩;rw[ret_iff,t199_eq,t199];simp only[amS,h4,h5,not_false_eq_true,true_implies,false_implies]
theorem f265 {F1 F2:AVal} {q e:Item→Bool} (h1:Asks F1 h q) (h2:Asks F2 h e) (a:Item):Ret cx 200 [.agg a.row,.rptr [F1],.rptr [F2]] h (.bool (q a||e a)) h:=by have c1:=λk Q=>h1.callv a (k:=k) (Q:=Q);have c2:=λk Q=>h2.callv a (k:=k) (Q:=Q);rw[ret_iff,t200_eq,t200];obtain⟨f,caps,rfl,hf,r1⟩:=h1;obtain⟨f',caps',rfl,hf',r2⟩:=h2;simp only[amS,↓reduceIte,targetOf,itS,hf,hf',(r1 a).call,(r2 a).call];rw[cndW_iff];exact⟨λh=>by simp[h],λh=>by simp[h]⟩
theorem f204 (hs:SAt h p l) (hn:l.length≤1000000000) (n:Int) {F:AVal} {q:Item→Bool} (hF:Asks F h q):Ret cx 173 [p,.int .i64 n,F] h (.bool (inSc q (ends n) l.reverse)) h:=by
 obtain⟨G,hG,hfits,hcell⟩:=f264 n h;have hFc:F.cells=[F]:=by obtain⟨f,caps,rfl,hf,_⟩:=hF;rfl
 have hF':=hF;have hfit:Asks (.func (.func 200) [] [.rptr [F],.rptr [G]]) h (λa=>q a||ends n a):=⟨200,_,rfl,by decide,λa=>f265 hF hfits a⟩;rw[ret_iff,t173_eq,t173];simp only[amS,↓reduceIte,targetOf,hFc,hG.call,hcell,(f201 hs hn hfit).call];rw[←lastIdx_sc l true];rcases lastIdx_spec (q:=λa=>q a||ends n a) (l:=l) with⟨h1,h2⟩|⟨k,hk,h1,h2,h3⟩
 ·simp[h1]
 ·have c1:(0:Int)≤(k:Int)∧(k:Int).toNat<l.length:=⟨by omega,by simpa using hk⟩;simp only[h1];rw[dif_pos c1];rcases hs with⟨rfl,rfl⟩|⟨id,o,v,rfl,hc,hv⟩
  ·simp at hk
  ·obtain⟨f,caps,rfl,hf,hr⟩:=hF';simp only[amS,Nat.reduceLeDiff,↓reduceIte,itS,hf,c1.1,not_true_eq_false,true_implies,false_implies,hc.load,Nat.add_zero,hv.eaddrM hk,(hr l[k]).call,Int.toNat_natCast]
theorem f225 {v:AVal} {ws:List Bytes} (hv:IsStrs ws v) (hn:ws.length≤1000000000) (a:Item) (h:AHeap):Ret cx 183 [.agg a.row,.rptr [v]] h (.bool (isOne ws a)) h:=by have b:=f149 hv hn a h;rw[ret_iff,t183_eq,t183];simp only[amS,itS,b.call]
theorem f136 (hs:SAt h p l) (hn:l.length≤1000000000) (n:Int) {v:AVal} {ws:List Bytes} (hv:IsStrs ws v) (hw:ws.length≤1000000000):Ret cx 147 [p,.int .i64 n,v] h (.bool (inSc (isOne ws) (ends n) l.reverse)) h:=by have hfit:Asks (.func (.func 183) [] [.rptr [v]]) h (isOne ws):=⟨183,_,rfl,by decide,λa=>f225 hv hw a h⟩;rw[ret_iff,t147_eq,t147];simp only[amS,hv.cells,(f204 hs hn n hfit).call]
theorem f205 (node:Int) (a:Item) (h:AHeap):Ret cx 174 [.agg a.row,.rptr [.int .i64 node]] h (.bool (isNode node a)) h:=by rw[ret_iff,t174_eq,t174,Item.row];simp only[amS,itS,isNode]
theorem f118 (hs:SAt h p l) (hn:l.length≤1000000000) (n node:Int):Ret cx 130 [p,.int .i64 n,.int .i64 node] h (.bool (inSc (isNode node) (ends n) l.reverse)) h:=by have hfit:Asks (.func (.func 174) [] [.rptr [.int .i64 node]]) h (isNode node):=⟨174,_,rfl,by decide,λa=>f205 node a h⟩;rw[ret_iff,t130_eq,t130];simp only[amS,(f204 hs hn n hfit).call]
theorem f202 (node:Int) (a:Item) (h:AHeap):Ret cx 146 [.agg a.row,.rptr [.int .i64 node]] h (.bool (isNode node a)) h:=by rw[ret_iff,t146_eq,t146,Item.row];simp only[amS,itS,isNode]
theorem f116 (hs:SAt h p l) (hn:l.length≤1000000000) (node:Int):Ret cx 88 [p,.int .i64 node] h (.int .i64 (lastIdx (isNode node) l)) h:=by have hfit:Asks (.func (.func 146) [] [.rptr [.int .i64 node]]) h (isNode node):=⟨146,_,rfl,by decide,λa=>f202 node a h⟩;rw[ret_iff,t88_eq,t88];simp only[amS,(f201 hs hn hfit).call]
theorem f232 (s:Bytes) (a:Item) (h:AHeap):Ret cx 65 [.agg a.row,.rptr [.str s]] h (.bool (isOne [s] a)) h:=by have b:=f149 (ws:=[s]) isStrs_of (show[s].length≤1000000000 by simp) a h;rw[ret_iff,t65_eq,t65];simp only[amS,itS,mk_strs (ws:=[s]) (args:=[.str s]) rfl (by simp),b.call]
theorem f144 (hs:SAt h p l) (hn:l.length≤1000000000) (s:Bytes):Ret cx 23 [p,.str s] h (.int .i64 (lastIdx (isOne [s]) l)) h:=by have hfit:Asks (.func (.func 65) [] [.rptr [.str s]]) h (isOne [s]):=⟨65,_,rfl,by decide,λa=>f232 s a h⟩;rw[ret_iff,t23_eq,t23];simp only[amS,(f201 hs hn hfit).call]
end
end
section
section
variable {h:AHeap} {p v:AVal} {l:List Item}
theorem f186 (hv:IsItems l v) (a:Item) {n:Nat} (hn:n≤l.length) (hb:l.length≤1000000000):∃u,Ret cx 165 [v,.agg a.row,.int .i64 (n:Int)] h u h∧IsItems (l.take n++a::l.drop n) u:=by
 have hb':(l.length+1)*40≤maxBytes:=by have:maxBytes=140737488355328:=rfl;omega
 obtain⟨u1,e1,h1⟩:=IsSl.slcHi hv (k:= .i64) hn;obtain⟨u2,e2,h2⟩:=IsSl.appNil h1 (b:=40) (by rw[List.length_take];have:maxBytes=140737488355328:=rfl;omega);have e3:=IsSl.app1M (a:=a) h2 (b:=40) (by rw[List.length_take];have:maxBytes=140737488355328:=rfl;omega);obtain⟨u4,e4,h4⟩:=IsSl.slcLo hv (k:= .i64) hn;obtain⟨u5,e5,h5⟩:=IsSl.appM (v:= .sl 4 ((l.take n++[a]).map Item.row)) .mk h4 (b:=40) (by rw[List.length_append,List.length_take,List.length_drop,List.length_singleton];have:maxBytes=140737488355328:=rfl;omega);refine⟨u5,?_,by rw[List.append_assoc] at h5;exact h5⟩;rw[ret_iff,t165_eq,t165];simp only[amS,itS,e1,e2,pe_mksl4,e3,e4,e5]
theorem f95 {id o:Nat} (hs:SObj h id o l) (hb:l.length≤1000000000) (a:Item):∃u,Ret cx 115 [.ptr (some (id,o)),.agg a.row] h (.tuple []) (put h id o u)∧IsItems (l++[a]) u:=by obtain⟨v,hc,hv⟩:=hs;obtain⟨u,hr,hu⟩:=f186 (h:=h) hv a (n:=l.length) (Nat.le_refl _) hb;rw[List.take_length,List.drop_length] at hu;refine⟨u,?_,hu⟩;rw[ret_iff,t115_eq,t115];simp only[amS,itS,Bool.bne_true,Bool.not_false,hc.load,Nat.add_zero,IsSl.lenM hv,hr.call,hc.store hu.cells]
theorem f119 (hs:SAt h p l) (hb:l.length≤1000000000) (node:Int):Ret cx 131 [p,.int .i64 node] h (.int .i64 (furthest node l)) h:=by
 rw[ret_iff,t131_eq,t131];have hbd: -1≤lastIdx (isNode node) l∧lastIdx (isNode node) l<l.length+1:=by rcases lastIdx_spec (q:=isNode node) (l:=l) with⟨h1,h2⟩|⟨n,hn,h1,h2,h3⟩<;>rw[h1]<;>omega
 simp only[amS,(f116 hs hb node).call,pe_addI (show -9223372036854775808≤lastIdx (isNode node) l+1 by omega) (show lastIdx (isNode node) l+1<9223372036854775808 by omega)];rw[furthest_eq];by_cases hneg:lastIdx (isNode node) l<0
 ·rw[if_pos hneg];refine W_loop_st (λn:Nat=>[.int .i64 0,.int .i64 (lastIdx (isNode node) l+1)]) (λn h1=>h1=h) (λn=>n) 0 rfl rfl ?_;rintro n h1 rfl;have i1:¬0≤lastIdx (isNode node) l:=by omega
  simp only[amS,i1,not_false_eq_true,true_implies,false_implies]
 ·rw[if_neg hneg];have i0:0≤lastIdx (isNode node) l:=by omega
  obtain⟨m,hm⟩:=Int.eq_ofNat_of_zero_le i0;refine W_loop_st (λn:Nat=>[.int .i64 0,.int .i64 (n:Int)]) (λn h1=>firstFrom special l (m+1)=firstFrom special l n∧h1=h) (λn=>l.length-n) (m+1) (by rw[hm];rfl) ⟨rfl,rfl⟩ ?_;rw[hm,Int.toNat_natCast];rintro n h1 ⟨ha,rfl⟩;simp only[amS,show(0:Int)≤(m:Int) by omega,not_true_eq_false,true_implies,false_implies,(f104 hs).call];rcases Nat.lt_or_ge n l.length with hlt|hge
  ·have i1:(n:Int)<(l.length:Int):=by omega
   rw[firstFrom_lt hlt] at ha;rcases hs with⟨rfl,rfl⟩|⟨id,o,v,rfl,hc,hv⟩
   ·simp at hlt
   ·simp only[amS,itS,i1,not_true_eq_false,true_implies,false_implies,hc.load,Nat.add_zero,IsSl.eaddrM hv hlt,f139_iff,pe_inc (show n<9223372036854775807 by omega)];rw[cndW_iff];refine⟨λhe=>?_,λhe=>?_⟩
    ·rw[ha,if_pos (by exact he)]
    ·rw[if_neg (by simp[special,he])] at ha;exact LoopPost.next (n+1) rfl ⟨ha,rfl⟩ (by omega)
  ·have i1:¬(n:Int)<(l.length:Int):=by omega
   rw[firstFrom_end hge] at ha;simp only[amS,i1,not_false_eq_true,true_implies,false_implies,ha]
end
end
section
def AsksA (F:AVal) (q:Item→Bool):Prop:=∃f caps,F= .func (.func f) [] caps∧f≤99999∧∀(a:Item) (h:AHeap),Ret cx f (.agg a.row::caps) h (.bool (q a)) h
section
variable {h:AHeap} {p v:AVal} {l:List Item}
theorem f42 {id o:Nat} (hs:SObj h id o l) (hb:l.length≤1000000000) (h2:2≤l.length):∃u,Ret cx 74 [.ptr (some (id,o))] h (.agg (topOf l).row) (put h id o u)∧IsItems (l.take (l.length-1)) u:=by
 obtain⟨v,hc,hv⟩:=(show SObj h id o l from hs);obtain⟨u,e,hu⟩:=IsSl.slcHi hv (k:= .i64) (show l.length-1≤l.length by omega);refine⟨u,?_,hu⟩;have e1:(l.length:Int)-1=((l.length-1:Nat):Int):=by omega
 rw[ret_iff,t74_eq,t74];simp only[amS,itS,(f104 hs.at).call,(f39 hs.at hb).call,hc.load,Nat.add_zero,IsSl.lenM hv,pe_subI (show -9223372036854775808≤(l.length:Int)-1 by omega) (show(l.length:Int)-1<9223372036854775808 by omega),e1,e,hc.store (IsSl.cells hu),show¬(l.length:Int)<2 by omega,not_false_eq_true,true_implies,false_implies]
theorem f146 {id o:Nat} (hs:SObj h id o l) (hb:l.length≤1000000000) {B A:AVal} {b a:Item→Bool} (hB:AsksA B b) (hA:AsksA A a):
  ∃u,Ret cx 121 [.ptr (some (id,o)),B,A] h (.int .i64 ((l.length:Int)-((pops b a l).length:Int))) (put h id o u)∧IsItems (pops b a l) u:=by
 obtain⟨fb,cb,rfl,hfb,rb⟩:=hB;obtain⟨fa,ca,rfl,hfa,ra⟩:=hA;have hlt:=hs.lt;have hev:Ev cx 121 [.ptr (some (id,o)),.func (.func fb) [] cb,.func (.func fa) [] ca] h λr h'=>r= .int .i64 ((l.length:Int)-((pops b a l).length:Int))∧∃u,h'=put h id o u∧IsItems (pops b a l) u:=by
  unfold Ev;rw[t121_eq,t121];refine W_loop_st (λn:Nat=>[.int .i64 ((l.length:Int)-(n:Int))]) (λn h1=>n≤l.length∧(∃u,h1=put h id o u∧IsItems (l.take n) u)∧pops b a l=pops b a (l.take n)) (λn=>n) l.length (by simp) ⟨Nat.le_refl _,by rw[List.take_length];exact hs.setSame,by rw[List.take_length]⟩ ?_;rintro n h1 ⟨hn,⟨u,rfl,hu⟩,ha⟩;have hs1:SObj (put h id o u) id o (l.take n):= .of_set hlt hu;have hln:(l.take n).length=n:=by rw[List.length_take];omega
  simp only[amS,↓reduceIte,(f104 hs1.at).call,hln]
  match n,hn,hu,ha,hs1,hln with
  |0,hn,hu,ha,hs1,hln=>rw[pops_one (l:=l.take 0) (by simp)] at ha;simp only[amS,show¬(1:Int)<((0:Nat):Int) by omega,not_false_eq_true,true_implies,false_implies];exact⟨_,rfl,by rw[ha];rfl,u,rfl,by rw[ha];exact hu⟩
  |1,hn,hu,ha,hs1,hln=>rw[pops_one (l:=l.take 1) (by rw[hln];exact Nat.le_refl _)] at ha;simp only[amS,show¬(1:Int)<((1:Nat):Int) by omega,not_false_eq_true,true_implies,false_implies];exact⟨_,rfl,by rw[ha,hln],u,rfl,by rw[ha];exact hu⟩
  |m+2,hn,hu,ha,hs1,hln=>
   have hm:m+1<l.length:=by omega
   have e1:((l.length:Int)-((m+2:Nat):Int))+1=(l.length:Int)-((m+1:Nat):Int):=by omega
   obtain⟨u2,hr,hu2⟩:=f42 hs1 (by omega) (by omega);rw[topOf_take hm] at hr;have e2:(l.take (m+2)).take ((l.take (m+2)).length-1)=l.take (m+1):=by rw[hln,List.take_take,Nat.min_eq_left (by omega)];rfl
   rw[e2] at hu2;rw[put_put] at hr;have hr33:=f39 hs1.at (by omega);rw[topOf_take hm] at hr33;rw[pops_take hm] at ha;simp only[amS,↓reduceIte,targetOf,hfa,hfb,show(1:Int)<((m+2:Nat):Int) by omega,not_true_eq_false,true_implies,false_implies,hr33.call,(rb _ _).call,hr.call,(ra _ _).call,pe_addI (show -9223372036854775808≤((l.length:Int)-((m+2:Nat):Int))+1 by omega) (show((l.length:Int)-((m+2:Nat):Int))+1<9223372036854775808 by omega),e1];rw[cndW_iff,cndW_iff];refine⟨λhb1=>⟨λha1=>?_,λha1=>?_⟩,λhb1=>?_⟩
   ·have hb1:b l[m+1]=false:=by simpa using hb1
    rw[if_neg (by simp[hb1]),if_pos ha1] at ha;exact⟨_,rfl,by rw[ha,List.length_take,Nat.min_eq_left (by omega)],u2,rfl,by rw[ha];exact hu2⟩
   ·have hb1:b l[m+1]=false:=by simpa using hb1
    rw[if_neg (by simp[hb1]),if_neg (by simp[ha1])] at ha;exact LoopPost.next (m+1) rfl ⟨by omega,⟨u2,rfl,hu2⟩,ha⟩ (by omega)
   ·have hb1:b l[m+1]=true:=by simpa using hb1
    rw[if_pos hb1] at ha;exact⟨_,rfl,by rw[ha,hln],u,rfl,by rw[ha];exact hu⟩
 obtain⟨r,h',hr,rfl,u,rfl,hu⟩:=hev.ret;exact⟨u,hr,hu⟩
theorem asks_never:AsksA (.func (.func 124) [] []) never:=⟨_,_,rfl,by decide,λa h=>by rw[ret_iff,t124_eq,t124];simp only[amS,itS,never]⟩
theorem asks_until {w:AVal} {ws:List Bytes} (hw:IsStrs ws w) (hn:ws.length≤1000000000):AsksA (.func (.func 125) [] [.rptr [w]]) (isOne ws):=⟨_,_,rfl,by decide,λa h=>by rw[ret_iff,t125_eq,t125];simp only[amS,itS,(f149 hw hn a h).call]⟩
theorem asks_implied (s:Bytes):AsksA (.func (.func 136) [] [.rptr [.str s]]) (unimplied s):=⟨_,_,rfl,by decide,λa h=>by
 rw[ret_iff,t136_eq,t136];simp only[amS,itS,f227_iff,unimplied];refine⟨λh1=>by simp[h1],λh1=>?_⟩;rw[cndW_iff];refine⟨λh2=>?_,λh2=>?_⟩
 ·have h2:a.name∉implieds:=by simpa using h2
  simp[h2]
 ·have h2:a.name∈implieds:=by simpa using h2
  have h1:a.space=1:=by simpa using h1
  simp[h2,h1]⟩
theorem asks_thorough:AsksA (.func (.func 122) [] []) unthorough:=⟨_,_,rfl,by decide,λa h=>by
 rw[ret_iff,t122_eq,t122];simp only[amS,itS,f234_iff,unthorough];refine⟨λh1=>by simp[h1],λh1=>?_⟩;have h1:a.space=1:=by simpa using h1
 simp[h1]⟩
theorem asks_popNode (node:Int):AsksA (.func (.func 138) [] [.rptr [.int .i64 node]]) (isNode node):=⟨_,_,rfl,by decide,λa h=>by rw[ret_iff,t138_eq,t138];simp only[amS,itS,isNode]⟩
theorem f137 {id o:Nat} (hs:SObj h id o l) (hb:l.length≤1000000000) (s:Bytes):
  ∃u,Ret cx 76 [.ptr (some (id,o)),.str s] h (.int .i64 ((l.length:Int)-((pops (unimplied s) never l).length:Int))) (put h id o u)∧IsItems (pops (unimplied s) never l) u:=by
 obtain⟨u,hr,hu⟩:=f146 hs hb (asks_implied s) asks_never;exact⟨u,by rw[ret_iff,t76_eq,t76];simp only[amS,hr.call],hu⟩
theorem f66 {id o:Nat} (hs:SObj h id o l) (hb:l.length≤1000000000) {w:AVal} {ws:List Bytes} (hw:IsStrs ws w) (hn:ws.length≤1000000000):
  ∃u,Ret cx 68 [.ptr (some (id,o)),w] h (.int .i64 ((l.length:Int)-((pops never (isOne ws) l).length:Int))) (put h id o u)∧IsItems (pops never (isOne ws) l) u:=by
 obtain⟨u,hr,hu⟩:=f146 hs hb asks_never (asks_until hw hn);exact⟨u,by rw[ret_iff,t68_eq,t68];simp only[amS,IsStrs.cells hw,hr.call],hu⟩
theorem f145 {id o:Nat} (hs:SObj h id o l) (hb:l.length≤1000000000):
  ∃u,Ret cx 67 [.ptr (some (id,o))] h (.int .i64 ((l.length:Int)-((pops unthorough never l).length:Int))) (put h id o u)∧IsItems (pops unthorough never l) u:=by
 obtain⟨u,hr,hu⟩:=f146 hs hb asks_thorough asks_never;exact⟨u,by rw[ret_iff,t67_eq,t67];simp only[amS,hr.call],hu⟩
theorem f120 {id o:Nat} (hs:SObj h id o l) (hb:l.length≤1000000000) (node:Int):
  ∃u,Ret cx 77 [.ptr (some (id,o)),.int .i64 node] h (.int .i64 ((l.length:Int)-((popNode node l).length:Int))) (put h id o u)∧IsItems (popNode node l) u:=by
 by_cases hneg:lastIdx (isNode node) l<0
 ·obtain⟨u,e,hu⟩:=hs.setSame;refine⟨u,?_,by rw[popNode,if_pos hneg];exact hu⟩;rw[popNode,if_pos hneg,Int.sub_self,ret_iff,t77_eq,t77];simp only[amS,(f116 hs.at hb node).call,hneg,not_true_eq_false,true_implies,false_implies];exact e
 ·obtain⟨u,hr,hu⟩:=f146 hs hb asks_never (asks_popNode node);refine⟨u,?_,by rw[popNode,if_neg hneg];exact hu⟩;rw[popNode,if_neg hneg,ret_iff,t77_eq,t77];simp only[amS,(f116 hs.at hb node).call,hneg,not_false_eq_true,true_implies,false_implies,hr.call]
end
end
section
section
variable {h:AHeap} {p v:AVal} {l:List Item}
theorem f209 (hv:IsItems l v) {k:Nat} (hk:k<l.length) (hb:l.length≤1000000000):∃u,Ret cx 177 [v,.int .i64 (k:Int)] h u h∧IsItems (dropAt l k) u:=by obtain⟨u1,e1,h1⟩:=IsSl.slcHi hv (k:= .i64) (show k≤l.length by omega);obtain⟨u2,e2,h2⟩:=IsSl.appNil h1 (b:=40) (big40 (by rw[List.length_take];omega));obtain⟨u4,e4,h4⟩:=IsSl.slcLo hv (k:= .i64) (show k+1≤l.length by omega);obtain⟨u5,e5,h5⟩:=IsSl.appM h2 h4 (b:=40) (big40 (by rw[List.length_take,List.length_drop];omega));refine⟨u5,?_,h5⟩;rw[ret_iff,t177_eq,t177];simp only[amS,e1,e2,pe_inc (show k<9223372036854775807 by omega),e4,e5]
theorem f124 {id o:Nat} (hs:SObj h id o l) (hb:l.length≤1000000000) (node:Int):∃u,Ret cx 134 [.ptr (some (id,o)),.int .i64 node] h (.bool (decide (1≤lastIdx (isNode node) l))) (put h id o u)∧IsItems (removed node l) u:=by
 by_cases hneg:lastIdx (isNode node) l<1
 ·obtain⟨u,e,hu⟩:=hs.setSame;refine⟨u,?_,by rw[removed,if_pos hneg];exact hu⟩;rw[ret_iff,t134_eq,t134,←e];simp only[amS,(f116 hs.at hb node).call,hneg,not_true_eq_false,true_implies,false_implies,show¬1≤lastIdx (isNode node) l by omega,decide_false]
 ·rcases lastIdx_spec (q:=isNode node) (l:=l) with⟨h1,_⟩|⟨k,hk,h1,_⟩
  ·rw[h1] at hneg;omega
  ·obtain⟨v,hc,hv⟩:=(show SObj h id o l from hs);obtain⟨u,hr,hu⟩:=f209 (h:=h) hv hk hb;refine⟨u,?_,by rw[removed,if_neg hneg,h1];exact hu⟩;rw[ret_iff,t134_eq,t134];simp only[amS,(f116 hs.at hb node).call,hc.load,Nat.add_zero,h1];rw[h1] at hneg;simp only[amS,hr.call,Nat.add_zero,hc.store (IsItems.cells hu),show¬(k:Int)<1 from hneg,not_false_eq_true,true_implies,false_implies,show(1:Int)≤(k:Int) by omega,decide_true]
theorem f125 {id o:Nat} (hs:SObj h id o l) (hb:l.length≤1000000000) (a:Item) (i:Int):∃u,Ret cx 135 [.ptr (some (id,o)),.agg a.row,.int .i64 i] h (.tuple []) (put h id o u)∧IsItems (l.take (insertPos i l.length)++a::l.drop (insertPos i l.length)) u:=by
 obtain⟨v,hc,hv⟩:=(show SObj h id o l from hs);obtain⟨u,hr,hu⟩:=f186 (h:=h) hv a (n:=insertPos i l.length) (by unfold insertPos;omega) hb;refine⟨u,?_,hu⟩;rw[ret_iff,t135_eq,t135];have e1:(if(l.length:Int)<(if i<1 then 1 else i) then(l.length:Int) else(if i<1 then 1 else i))=((insertPos i l.length:Nat):Int):=by unfold insertPos;split<;>split<;>omega
 simp only[amS,itS,Bool.bne_true,Bool.not_false,hc.load,Nat.add_zero,pe_max,IsSl.lenM hv,pe_min,e1,hr.call,hc.store (IsItems.cells hu)]
theorem f266 (hv:IsItems l v) (hne:l≠[]) (hb:l.length≤1000000000):Ret cx 201 [v] h (.msl h.length 0 l.length 4) (h++[.cells (l.map Item.row).flatten]):=by
 have e1:peval (.nileq false .sl) [v,.slnil]=some (.bool false):=by
  rcases hv with rfl|⟨rfl,hv⟩
  ·rfl
  ·exact absurd (by simpa using hv) hne
 have e2:peval (.mksl 4) []=some (.sl 4 []):=rfl;have e3:=hobjOf_some (h:=h) (s:= .sl 4 []) (z:=4) (b:=40) (.inr rfl) hv (by simpa using hne) (by rw[List.length_map];exact big40 (by omega));rw[List.length_map] at e3;rw[ret_iff,t201_eq,t201];simp only[amS,e1,e2,e3]
section
variable {id o n z:Nat} {v w:AVal} {X Y:AObj} {rows:List (List AVal)}
theorem At.next (ha:At h id o v):(Am.put h id o w++[X])[h.length]?=some X∧At (Am.put h id o w++[X]) id o w∧(Am.put h id o w++[X]).set h.length Y=Am.put h id o w++[Y]:=by have e:=put_len (h:=h) (id:=id) (o:=o) (u:=w);refine⟨by rw[←e];simp,ha.put.app,?_⟩;rw[List.set_append_right _ _ (by omega),←e,Nat.sub_self];rfl
theorem At.frzSame (ha:At h id o v) (hv:hfrz h v=some (h,v)):hfrzAt h 0 (.ptr (some (id,o)))=some h:=by have e1:=ha.same;obtain⟨cs,hc,e⟩:=ha;simp only[hfrzAt,hc,Nat.add_zero,e,hv,Option.bind_some];rw[put_of hc] at e1;rw[e1]
theorem At.frzNext (ha:At h id o v) (hr:∀r∈rows,r.length=z):hfrzAt (Am.put h id o (.msl h.length 0 rows.length z)++[.cells rows.flatten]) 0 (.ptr (some (id,o)))=some (Am.put h id o (.sl z rows)++[.dead]):=by obtain⟨c1,c2,c3⟩:=ha.next (w:= .msl h.length 0 rows.length z) (X:= .cells rows.flatten) (Y:= .dead);have f1:=hfrz_rows hr c1;rw[c3] at f1;have a2:=(ha.next (w:= .msl h.length 0 rows.length z) (X:= .dead) (Y:= .dead)).2.1;obtain⟨cs,hc,e⟩:=c2;obtain⟨cs2,hc2,e2⟩:=a2;simp only[hfrzAt,hc,Nat.add_zero,e,f1,Option.bind_some,hc2];rw[←put_of (u:= .sl z rows) hc2,put_app ha.put,put_put]
end
theorem f207 {id o:Nat} (hs:SObj h id o l) (hb:l.length≤1000000000) (node:Int) (a:Item):∃u t,Ret cx 175 [.ptr (some (id,o)),.int .i64 node,.agg a.row] h (.bool (decide (1≤lastIdx (isNode node) l))) (put h id o u++t)∧IsItems (replaced node a l) u:=by
 obtain⟨v,hc,hv⟩:=(show SObj h id o l from hs);by_cases hneg:lastIdx (isNode node) l<1
 ·refine⟨v,[],?_,by rw[replaced,if_pos hneg];exact hv⟩;have e2:=hc.frzSame (IsSl.frz hv);rw[ret_iff,t175_eq,t175,hc.same,List.append_nil];simp only[amS,itS,(f116 hs.at hb node).call,hneg,not_true_eq_false,true_implies,false_implies,e2,show¬1≤lastIdx (isNode node) l by omega,decide_false]
 ·rcases lastIdx_spec (q:=isNode node) (l:=l) with⟨h1,_⟩|⟨k,hk,h1,_⟩
  ·rw[h1] at hneg;omega
  ·have hnk:¬(k:Int)<1:=by rw[h1] at hneg;exact hneg
   have hne:l≠[]:=by intro e;subst e;simp at hk
   have hcl:=f266 (h:=h) hv hne hb;have s1:=(hc.app (t:=[AObj.cells (l.map Item.row).flatten])).store (u:= .msl h.length 0 l.length 4) rfl;rw[put_app hc] at s1;obtain⟨c3,c2,c4⟩:=hc.next (w:= .msl h.length 0 l.length 4) (X:= .cells (l.map Item.row).flatten) (Y:= .cells ((l.map Item.row).set k a.row).flatten);have s2:=hstore_rows (z:=4) (rowI l) c3 (i:=k) (by simpa using hk) (q:=a.row) rfl;rw[c4] at s2;have e4:peval (.eaddr 4) [.msl h.length 0 l.length 4,.int .i64 (k:Int)]=some (.ptr (some (h.length,k*4))):=eaddr_msl hk;have e2:=hc.frzNext (set_rows (rowI l) (i:=k) (q:=a.row) rfl);rw[List.length_set,List.length_map] at e2;refine⟨.sl 4 ((l.map Item.row).set k a.row),[.dead],?_,?_⟩
   ·rw[ret_iff,t175_eq,t175];simp only[amS,itS,(f116 hs.at hb node).call,h1,hnk,not_false_eq_true,true_implies,false_implies,hc.load,Nat.add_zero,hcl.call,s1,c2.load,e4,s2,e2,show(1:Int)≤(k:Int) by omega,decide_true]
   ·rw[replaced,if_neg hneg,h1,Int.toNat_natCast,IsItems,List.map_set];exact .mk
end
end
section
section
variable {h:AHeap} {p v w:AVal} {l:List Item} {ws:List Bytes}
end
end
end Go.Am
end
section
namespace Go.Am
open Go
set_option maxRecDepth 100000
section
section
variable {e:Fmt} {d:AVal}
end
section
variable {h:AHeap} {v:AVal} {l:List Fmt} {id o:Nat}
theorem f99 (hc:At h id o v) (hv:IsFmts l v) (hb:l.length≤1000000000):Ret cx 126 [.ptr (some (id,o))] h (.int .i64 (since l)) h:=by
 have hv:IsSl 3 (l.map Fmt.row) v:=hv;rw[ret_iff,t126_eq,t126];simp only[amS,hc.load,Nat.add_zero,hv.lenM];refine W_loop_st (λn:Nat=>[.int .i64 (n:Int)]) (λn h1=>n≤l.length∧since l=since (l.take n)∧h1=h) (λn=>n) l.length rfl ⟨Nat.le_refl _,by rw[List.take_length],rfl⟩ ?_;rintro n h1 ⟨hn,ha,rfl⟩
 cases n with
 |zero=>simp only[amS,show¬(0:Int)<((0:Nat):Int) by omega,not_false_eq_true,true_implies,false_implies,ha,since_nil];rfl
 |succ n=>rw[since_take hn] at ha;simp only[amS,show(0:Int)<((n+1:Nat):Int) by omega,not_true_eq_false,true_implies,false_implies,hc.load,Nat.add_zero,pe_dec (show 0<n+1 by omega) (show n+1<9223372036854775807 by omega),Nat.add_sub_cancel,hv.eaddrM (show n<l.length from hn),Fmt.at0];refine⟨λh0=>LoopPost.next n rfl ⟨by omega,by rw[ha,if_neg h0],rfl⟩ (by omega),λh0=>?_⟩;rw[if_pos (by simpa using h0)] at ha;rw[ha];rfl
theorem f115 (hc:At h id o v) (hv:IsFmts l v) (hb:l.length≤1000000000) (name:Bytes):Ret cx 128 [.ptr (some (id,o)),.str name] h (.int .i64 (findE name l)) h:=by
 have hv:IsSl 3 (l.map Fmt.row) v:=hv;rw[ret_iff,t128_eq,t128];simp only[amS,bne_self_eq_false,hc.load,Nat.add_zero,hv.lenM,pe_subI (show -9223372036854775808≤(l.length:Int)-1 by omega) (show(l.length:Int)-1<9223372036854775808 by omega)];refine W_loop_st (λn:Nat=>[.int .i64 0,.int .i64 ((n:Int)-1)]) (λn h1=>n≤l.length∧findE name l=findE name (l.take n)∧h1=h) (λn=>n) l.length rfl ⟨Nat.le_refl _,by rw[List.take_length],rfl⟩ ?_;rintro n h1 ⟨hn,ha,rfl⟩
 cases n with
 |zero=>
  have i1:¬(0:Int)≤((0:Nat):Int)-1:=by omega
  rw[ha];simp only[amS,i1,not_false_eq_true,true_implies,false_implies,findE_nil]
 |succ n=>
  have i2:((n+1:Nat):Int)-1=(n:Int):=by omega
  rw[findE_take hn] at ha;simp only[amS,i2,show(0:Int)≤(n:Int) by omega,not_true_eq_false,true_implies,false_implies,hc.load,Nat.add_zero,hv.eaddrM (show n<l.length from hn),Fmt.at0,Fmt.drop1,pe_subI (show -9223372036854775808≤(n:Int)-1 by omega) (show(n:Int)-1<9223372036854775808 by omega)];refine⟨λh0=>⟨λh1=>?_,λh1=>?_⟩,λh0=>?_⟩
  ·rw[ha,if_neg h0,if_pos h1]
  ·exact LoopPost.next n rfl ⟨by omega,by rw[ha,if_neg h0,if_neg h1],rfl⟩ (by omega)
  ·rw[ha,if_pos (by simpa using h0)]
theorem f41 (hc:At h id o v) (hv:IsFmts l v) (hb:l.length≤1000000000) (node:Int):Ret cx 73 [.ptr (some (id,o)),.int .i64 node] h (.int .i64 (entIdx node l)) h:=by
 have hv:IsSl 3 (l.map Fmt.row) v:=hv;rw[ret_iff,t73_eq,t73];simp only[amS,bne_self_eq_false,hc.load,Nat.add_zero,hv.lenM,pe_subI (show -9223372036854775808≤(l.length:Int)-1 by omega) (show(l.length:Int)-1<9223372036854775808 by omega)];refine⟨λh0=>by rw[entIdx,if_pos h0],λh0=>?_⟩;rw[entIdx,if_neg h0];refine W_loop_st (λn:Nat=>[.int .i64 0,.int .i64 ((n:Int)-1)]) (λn h1=>n≤l.length∧lastIdx (nodeIs node) l=lastIdx (nodeIs node) (l.take n)∧h1=h) (λn=>n) l.length rfl ⟨Nat.le_refl _,by rw[List.take_length],rfl⟩ ?_;rintro n h1 ⟨hn,ha,rfl⟩
 cases n with
 |zero=>
  have i1:¬(0:Int)≤((0:Nat):Int)-1:=by omega
  rw[ha];simp only[amS,i1,not_false_eq_true,true_implies,false_implies,lastIdx_nil]
 |succ n=>
  have i2:((n+1:Nat):Int)-1=(n:Int):=by omega
  rw[lastIdx_take hn] at ha;simp only[amS,i2,show(0:Int)≤(n:Int) by omega,not_true_eq_false,true_implies,false_implies,hc.load,Nat.add_zero,hv.eaddrM (show n<l.length from hn),Fmt.at0,pe_subI (show -9223372036854775808≤(n:Int)-1 by omega) (show(n:Int)-1<9223372036854775808 by omega)];refine⟨λh1=>?_,λh1=>?_⟩
  ·rw[ha,if_pos (by simpa[nodeIs] using h1)]
  ·exact LoopPost.next n rfl ⟨by omega,by rw[ha,if_neg (by simpa[nodeIs] using h1)],rfl⟩ (by omega)
end
section
variable {h:AHeap} {v:AVal} {l:List Attr}
theorem f259 (hv:IsAttrs l v) (hb:l.length≤1000000000) (x:Attr):Ret cx 207 [v,.agg x.row] h (.int .i64 (idxFrom (λa=>decide (x=a)) 0 l)) h:=by
 have hv:IsSl 3 (l.map Attr.row) v:=hv;rw[ret_iff,t207_eq,t207];simp only[amS,hv.lenM,Attr.len_row,Attr.g0,Attr.g1,Attr.g2,Attr.fold];refine W_loop_st (λn:Nat=>[.int .i64 0,.int .i64 (n:Int)]) (λn h1=>n≤l.length∧idxFrom (λa=>decide (x=a)) 0 l=idxFrom (λa=>decide (x=a)) n (l.drop n)∧h1=h) (λn=>l.length-n) 0 rfl ⟨Nat.zero_le _,rfl,rfl⟩ ?_;rintro n h1 ⟨hn,ha,rfl⟩;rcases Nat.lt_or_ge n l.length with hlt|hge
 ·have i1:(n:Int)<(l.length:Int):=by omega
  rw[List.drop_eq_getElem_cons hlt,idxFrom] at ha;simp only[amS,i1,not_true_eq_false,true_implies,false_implies,hv.eaddrM hlt,Attr.len_row,Attr.take_row,Nat.le_refl,attr_neq,Bool.bne_false,pe_inc (show n<9223372036854775807 by omega)];refine⟨λh0=>?_,λh0=>?_⟩
  ·rw[ha,if_pos (by simpa using h0)]
  ·exact LoopPost.next (n+1) rfl ⟨hlt,by rw[ha,if_neg (by simpa using h0)],rfl⟩ (by omega)
 ·have i1:¬(n:Int)<(l.length:Int):=by omega
  rw[List.drop_of_length_le hge,idxFrom] at ha;simp only[amS,i1,not_false_eq_true,true_implies,false_implies,ha]
theorem f192 (hv:IsAttrs l v) (hb:l.length≤1000000000) (x:Attr):Ret cx 190 [v,.agg x.row] h (.bool (decide (x∈l))) h:=by
 rw[ret_iff,t190_eq,t190];simp only[amS,Attr.len_row,Attr.g0,Attr.g1,Attr.g2,Attr.fold,(f259 hv hb x).call];rcases idxFrom_find (p:=λa=>decide (x=a)) (l:=l) (k:=0) with⟨h1,h2⟩|⟨n,a,h1,h2,h3⟩
 ·rw[h1];have:x∉l:=λhm=>by have:=List.find?_eq_none.1 h2 x hm;simp at this
  simp[this]
 ·have hm:=List.mem_of_getElem? h2;have he:x=a:=by simpa using List.find?_some h3
  have hx:x∈l:=by rw[he];exact hm
  rw[h1];simp[hx]
def AsksR (F:AVal) (h:AHeap) (q:Attr→Bool):Prop:=∃f caps,F= .func (.func f) [] caps∧f≤99999∧∀a:Attr,Ret cx f (.agg a.row::caps) h (.bool (q a)) h
theorem f187c {F:AVal} {q:Attr→Bool} (hv:IsAttrs l v) (hb:l.length≤1000000000) (hF:AsksR F h q):Ret cx 118 [v,F] h (.int .i64 (idxFrom q 0 l)) h:=by
 have hv:IsSl 3 (l.map Attr.row) v:=hv;obtain⟨f,caps,rfl,hf,hr⟩:=hF;rw[ret_iff,t118_eq,t118];simp only[amS,hv.lenM];refine W_loop_st (λn:Nat=>[.int .i64 0,.int .i64 (n:Int)]) (λn h1=>n≤l.length∧idxFrom q 0 l=idxFrom q n (l.drop n)∧h1=h) (λn=>l.length-n) 0 rfl ⟨Nat.zero_le _,rfl,rfl⟩ ?_;rintro n h1 ⟨hn',ha,rfl⟩;rcases Nat.lt_or_ge n l.length with hlt|hge
 ·have i1:(n:Int)<(l.length:Int):=by omega
  rw[List.drop_eq_getElem_cons hlt,idxFrom] at ha;simp only[amS,↓reduceIte,targetOf,hf,i1,not_true_eq_false,true_implies,false_implies,hv.eaddrM hlt,Attr.len_row,Attr.take_row,Nat.le_refl,(hr l[n]).call];rw[cndW_iff];refine⟨λhe=>?_,λhe=>?_⟩
  ·rw[ha,if_pos he]
  ·rw[if_neg (by simp[he])] at ha;simp only[amS,pe_inc (show n<9223372036854775807 by omega)];exact LoopPost.next (n+1) rfl ⟨hlt,ha,rfl⟩ (by omega)
 ·have i1:¬(n:Int)<(l.length:Int):=by omega
  rw[List.drop_of_length_le hge,idxFrom] at ha;simp only[amS,↓reduceIte,targetOf,hf,i1,not_false_eq_true,true_implies,false_implies,ha]
theorem f141c {F:AVal} {q:Attr→Bool} (hv:IsAttrs l v) (hb:l.length≤1000000000) (hF:AsksR F h q):Ret cx 59 [v,F] h (.bool (l.any q)) h:=by
 rw[ret_iff,t59_eq,t59];simp only[amS,(f187c hv hb hF).call];have:l.any q=(l.find? q).isSome:=by rw[Bool.eq_iff_iff,List.find?_isSome,List.any_eq_true]
 rw[this];rcases idxFrom_find (p:=q) (l:=l) (k:=0) with⟨h1,h2⟩|⟨n,a,h1,h2,h3⟩
 ·rw[h1,h2];simp
 ·rw[h1,h3];simp
theorem f191 (hv:IsAttrs l v) (hb:l.length≤1000000000) (x:Attr):Ret cx 189 [.agg x.row,.rptr [v]] h (.bool (!decide (x∈l))) h:=by rw[ret_iff,t189_eq,t189];simp only[amS,Attr.len_row,Attr.g0,Attr.g1,Attr.g2,Attr.fold,(f192 hv hb x).call]
theorem f190 {l2:List Attr} {w:AVal} (hv:IsAttrs l v) (hb:l.length≤1000000000) (hw:IsAttrs l2 w) (hb2:l2.length≤1000000000):Ret cx 188 [v,w] h (.bool (decide (∀x∈l,x∈l2))) h:=by
 have hF:AsksR (.func (.func 189) [] [.rptr [w]]) h λx=> !decide (x∈l2):=⟨189,_,rfl,by decide,λa=>f191 hw hb2 a⟩;have e:(!l.any λx=> !decide (x∈l2))=decide (∀x∈l,x∈l2):=by rw[Bool.eq_iff_iff];simp
 rw[ret_iff,t188_eq,t188,←e];simp only[amS,IsSl.cells hw,(f141c hv hb hF).call]
theorem f100 {a b:Fmt} (ha:FOk a) (hb:FOk b):Ret cx 158 [.agg a.row,.agg b.row] h (.bool (alikeC a.c b.c)) h:=by
 have r1:=f190 (h:=h) a.ok ha b.ok hb;have r2:=f190 (h:=h) b.ok hb a.ok ha;rw[ret_iff,t158_eq,t158];simp only[amS,Nat.reduceLeDiff,↓reduceIte,targetOf,List.append_nil,Fmt.len_row,Fmt.g1,Fmt.g2,Fmt.lenA,r1.call,r2.call];refine⟨λh1=>⟨λh2=>⟨λh3=>?_,λh3=>?_⟩,λh2=>?_⟩,λh1=>?_⟩
 ·have h2':a.c.attrs.length=b.c.attrs.length:=by omega
  simp only[alikeC,h1,h2',true_and]
  congr 3
  rw[eq_iff_iff];exact⟨λh=>⟨h3,h⟩,λh=>h.2⟩
 ·simp[alikeC,h3]
 ·have h2':¬a.c.attrs.length=b.c.attrs.length:=by omega
  simp[alikeC,h2']
 ·simp[alikeC,h1]
end
end
section
theorem W_same_self {Q:Post} {h:AHeap} {a:AVal} {k:IT}:W cx (.same a a k) Q h↔W cx k Q h:=by refine⟨λhw=>?_,W_same (AVal.beq_self a)⟩;obtain⟨m,x',vs',h',hr,q⟩:=hw.succ;simp only[IT.step,AVal.beq_self,if_true] at hr;exact W_succ ⟨m,x',vs',h',hr,q⟩
section
variable {h:AHeap} {v:AVal} {l:List Fmt} {id o:Nat}
theorem f45 {l:List Attr} (hv:IsAttrs l v) (hb:l.length≤1000000000):∃u,Ret cx 63 [v] h u h∧IsAttrs l u:=by
 have hv:IsSl 3 (l.map Attr.row) v:=hv;rcases hv with rfl|⟨rfl,hn⟩
 ·refine⟨.sl 3 (l.map Attr.row),?_,.mk⟩;have e1:peval (.nileq false .sl) [.sl 3 (l.map Attr.row),.slnil]=some (.bool false):=rfl;have e2:peval (.mksl 3) []=some (.sl 3 []):=rfl;have e3:happM h 3 40 (.sl 3 []) (.sl 3 (l.map Attr.row))=some (.sl 3 (l.map Attr.row)):=by
   simp only[happM,rowsAt,if_true,Option.bind_some]
   cases l with
   |nil=>rfl
   |cons a l=>have:(l.length+1)*40≤maxBytes:=big40 (by simp at hb;omega);simp[appendTo,this]
  rw[ret_iff,t63_eq,t63];simp only[amS,e1,e2,e3]
 ·refine⟨.slnil,?_,?_⟩
  ·have e1:peval (.nileq false .sl) [.slnil,.slnil]=some (.bool true):=rfl;rw[ret_iff,t63_eq,t63];simp only[amS,e1]
  ·exact .inr ⟨rfl,hn⟩
theorem f103 {e:Fmt} (he:FOk e):∃e':Fmt,e'.c=e.c∧Ret cx 160 [.agg e.row] h (.agg e'.row) h:=by obtain⟨u,r,hu⟩:=f45 (h:=h) e.ok he;refine⟨⟨e.c,u,hu⟩,rfl,?_⟩;rw[ret_iff,t160_eq,t160];simp only[amS,Fmt.len_row,Fmt.g0,Fmt.g1,Fmt.g2,r.call,IsSl.cells hu];rfl
theorem f101 (hv:IsFmts l v) {k:Nat} (hk:k<l.length) (hb:l.length≤1000000000):∃u,Ret cx 159 [v,.int .i64 (k:Int)] h u h∧IsFmts (dropAt l k) u:=by obtain⟨u1,e1,h1⟩:=IsSl.slcHi hv (k:= .i64) (show k≤l.length by omega);obtain⟨u2,e2,h2⟩:=IsSl.appNil h1 (b:=48) (big48 (by rw[List.length_take];omega));obtain⟨u4,e4,h4⟩:=IsSl.slcLo hv (k:= .i64) (show k+1≤l.length by omega);obtain⟨u5,e5,h5⟩:=IsSl.appM h2 h4 (b:=48) (big48 (by rw[List.length_take,List.length_drop];omega));refine⟨u5,?_,h5⟩;rw[ret_iff,t159_eq,t159];simp only[amS,e1,e2,pe_inc (show k<9223372036854775807 by omega),e4,e5]
theorem f102 (hv:IsFmts l v) (e:Fmt) {k:Nat} (hk:k≤l.length) (hb:l.length≤1000000000):∃u,Ret cx 148 [v,.agg e.row,.int .i64 (k:Int)] h u h∧IsFmts (l.take k++e::l.drop k) u:=by obtain⟨u1,e1,h1⟩:=IsSl.slcHi hv (k:= .i64) hk;obtain⟨u2,e2,h2⟩:=IsSl.appNil h1 (b:=48) (big48 (by rw[List.length_take];omega));have e3:=IsSl.app1M (a:=e) h2 (b:=48) (big48 (by rw[List.length_take];omega));obtain⟨u4,e4,h4⟩:=IsSl.slcLo hv (k:= .i64) hk;obtain⟨u5,e5,h5⟩:=IsSl.appM (f:=Fmt.row) (l:=l.take k++[e]) .mk h4 (b:=48) (big48 (by rw[List.length_append,List.length_take,List.length_drop,List.length_singleton];omega));refine⟨u5,?_,by rw[List.append_assoc] at h5;exact h5⟩;rw[ret_iff,t148_eq,t148];simp only[amS,Fmt.len_row,Fmt.g0,Fmt.g1,Fmt.g2,Fmt.fold,e1,e2,pe_mksl3r Fmt.len_row,e3,e4,e5]
theorem f138 (hv:IsFmts l v) (hne:l≠[]) (hb:l.length≤1000000000):Ret cx 89 [v] h (.msl h.length 0 l.length 3) (h++[.cells (l.map Fmt.row).flatten]):=by
 have e1:peval (.nileq false .sl) [v,.slnil]=some (.bool false):=by
  rcases hv with rfl|⟨rfl,hv⟩
  ·rfl
  ·exact absurd (by simpa using hv) hne
 have e2:peval (.mksl 3) []=some (.sl 3 []):=rfl;have e3:=hobjOf_some (h:=h) (s:= .sl 3 []) (z:=3) (b:=48) (.inr rfl) hv (by simpa using hne) (by rw[List.length_map];exact big48 (by omega));rw[List.length_map] at e3;rw[ret_iff,t89_eq,t89];simp only[amS,e1,e2,e3]
theorem f63 (hs:LObj h id o l) (hb:l.length≤1000000000):∃u,Ret cx 95 [.ptr (some (id,o))] h (.tuple []) (put h id o u)∧IsFmts (l++[markFmt]) u:=by obtain⟨v,hc,hv⟩:=(show LObj h id o l from hs);obtain⟨u,hr,hu⟩:=f102 (h:=h) hv markFmt (Nat.le_refl l.length) hb;rw[List.take_length,List.drop_length] at hu;refine⟨u,?_,hu⟩;rw[ret_iff,t95_eq,t95];simp only[amS,↓reduceIte,fillAt,Bool.bne_true,Bool.not_false,hc.load,Nat.add_zero,IsSl.lenM hv,mark_row,hr.call,hc.store (IsFmts.cells hu)]
theorem f123 (hs:LObj h id o l) (hb:l.length≤1000000000) {e:Fmt} (he:FOk e) (i:Int):∃u e',e'.c=e.c∧Ret cx 133 [.ptr (some (id,o)),.agg e.row,.int .i64 i] h (.tuple []) (put h id o u)∧IsFmts (l.take (clampPos i l.length)++e'::l.drop (clampPos i l.length)) u:=by
 obtain⟨v,hc,hv⟩:=(show LObj h id o l from hs);obtain⟨e',he',r1⟩:=f103 (h:=h) he;obtain⟨u,hr,hu⟩:=f102 (h:=h) hv e' (k:=clampPos i l.length) (by unfold clampPos;omega) hb;refine⟨u,e',he',?_,hu⟩;have e1:(if(l.length:Int)<(if i<0 then 0 else i) then(l.length:Int) else(if i<0 then 0 else i))=((clampPos i l.length:Nat):Int):=by unfold clampPos;split<;>split<;>omega
 rw[ret_iff,t133_eq,t133];simp only[amS,Fmt.len_row,Fmt.g0,Fmt.g1,Fmt.g2,Fmt.fold,Bool.bne_true,Bool.not_false,hc.load,Nat.add_zero,pe_max,IsSl.lenM hv,pe_min,e1,r1.call,W_same_self,hr.call,hc.store (IsFmts.cells hu)]
theorem f65 (hs:LObj h id o l) (hb:l.length≤1000000000):∃u,Ret cx 69 [.ptr (some (id,o))] h (.int .i64 ((l.length:Int)-((clearLen l:Nat):Int))) (put h id o u)∧IsFmts (l.take (clearLen l)) u:=by
 obtain⟨v,hc,hv⟩:=(show LObj h id o l from hs);obtain⟨s,es,hs1,_⟩:=since_spec l;have hcl:clearLen l≤l.length:=by unfold clearLen;omega
 obtain⟨u,e1,hu⟩:=IsSl.slcHi hv (k:= .i64) hcl;refine⟨u,?_,hu⟩;have e2:(if since l-1<0 then 0 else since l-1)=((clearLen l:Nat):Int):=by unfold clearLen;split<;>omega
 have hln:(l.take (clearLen l)).length=clearLen l:=by rw[List.length_take];omega
 have c2:At (put h id o u) id o u:=hc.put;rw[ret_iff,t69_eq,t69];simp only[amS,bne_self_eq_false,hc.load,Nat.add_zero,IsSl.lenM hv,(f99 hc hv hb).call,W_same_self,pe_subI (show -9223372036854775808≤since l-1 by omega) (show since l-1<9223372036854775808 by omega),pe_max,e2,e1,hc.store (IsSl.cells hu),c2.load,IsSl.lenM hu,hln,pe_subI (show -9223372036854775808≤(l.length:Int)-((clearLen l:Nat):Int) by omega) (show(l.length:Int)-((clearLen l:Nat):Int)<9223372036854775808 by omega)]
end
end
section
section
variable {e:FCor} {l:List Fmt} {n s:Nat}
end
section
variable {h:AHeap} {v:AVal} {l:List Fmt} {id o:Nat}
set_option maxHeartbeats 1000000 in
theorem f30 (hs:LObj h id o l) (hb:l.length≤900000000) (hl:∀x∈l,FOk x) {e:Fmt} (he:FOk e):∃u e',e'.c=e.c∧Ret cx 110 [.ptr (some (id,o)),.agg e.row] h (.tuple []) (put h id o u)∧IsFmts (pushed e.c l++[e']) u:=by
 obtain⟨v,hc,hv⟩:=(show LObj h id o l from hs);have hv':IsSl 3 (l.map Fmt.row) v:=hv;have hid:=hs.lt;obtain⟨s,es,hs1,hs2,_⟩:=since_spec l;have hev:Ev cx 110 [.ptr (some (id,o)),.agg e.row] h λr h'=>r= .tuple []∧∃(e':Fmt) (u:AVal),e'.c=e.c∧h'=put h id o u∧IsFmts (pushed e.c l++[e']) u:=by
  unfold Ev;rw[t110_eq,t110];by_cases h0:e.c.node=0
  ·obtain⟨e',he',r1⟩:=f103 (h:=h) he;obtain⟨u,r2,hu⟩:=f102 (h:=h) hv e' (Nat.le_refl l.length) (by omega);rw[List.take_length,List.drop_length] at hu;simp only[amS,Fmt.len_row,Fmt.g0,Fmt.g1,Fmt.g2,bne_self_eq_false,h0,ne_eq,not_true_eq_false,false_implies,true_implies,not_false_eq_true,hc.load,Nat.add_zero,hv'.lenM];rw[←h0,Fmt.fold];simp only[amS,r1.call,W_same_self,hc.load,Nat.add_zero,r2.call,hc.store (IsFmts.cells hu)];refine⟨_,rfl,rfl,e',u,he',rfl,?_⟩;rw[pushed,if_neg (λh=>h.1 h0)];exact hu
  ·simp only[amS,Fmt.len_row,Fmt.g0,Fmt.g1,Fmt.g2,Fmt.fold,bne_self_eq_false,h0,ne_eq,not_true_eq_false,false_implies,true_implies,not_false_eq_true,hc.load,Nat.add_zero,hv'.lenM,pe_subI (show -9223372036854775808≤(l.length:Int)-1 by omega) (show(l.length:Int)-1<9223372036854775808 by omega)];refine W_loop_st (λp:Int×Nat×Nat=>[.int .i64 p.1,.int .i64 (p.2.1:Int),.int .i64 ((p.2.2:Int)-1)])
    (λp h1=>s≤p.2.2∧p.2.2≤l.length∧p.2.1+p.2.2≤l.length∧cntE e.c l=p.2.1+cntE e.c (l.take p.2.2)∧(fstE e.c l=if 0≤fstE e.c (l.take p.2.2) then fstE e.c (l.take p.2.2) else if p.2.1=0 then -1 else p.1)∧(p.2.1=0∨∃k:Nat,k<l.length∧p.1=(k:Int))∧h1=h)
    (λp=>p.2.2) (0,0,l.length) rfl ⟨hs1,Nat.le_refl _,by simp,by simp,by
     rw[List.take_length];have:∀l:List Fmt,-1≤fstR e.c l:=by
      intro l
      induction l with
      |nil=>exact Int.le_refl _
      |cons x t ih=>rw[fstR];split<;>(try split)<;>(try split)<;>omega
     have:=this l.reverse;simp only[if_true];unfold fstE;split<;>omega,.inl rfl,rfl⟩ ?_
   rintro⟨fi,cn,n⟩ h1 ⟨a1,a2,a3,a4,a5,a6,rfl⟩;simp only at a1 a2 a3 a4 a5 a6;have r0:=f99 hc hv (by omega);rw[es] at r0;rcases Nat.lt_or_ge s n with hlt|hge
   ·obtain⟨n,rfl⟩:∃m,n=m+1:=⟨n-1,by omega⟩;have i2:((n+1:Nat):Int)-1=(n:Int):=by omega
    have hn:n<l.length:=a2;have hnz:=hs2 n hn (by omega);rw[cntE_take hn,if_neg hnz] at a4;rw[fstE_take hn,if_neg hnz] at a5;have r1:=f100 (h:=h1) (hl _ (List.getElem_mem hn)) he;simp only[amS,i2,r0.call,show(s:Int)≤(n:Int) by omega,not_true_eq_false,false_implies,true_implies,hc.load,Nat.add_zero,hv'.eaddrM hn,Fmt.len_row,Fmt.take_row,Nat.le_refl,r1.call,pe_inc (show cn<9223372036854775807 by omega),pe_subI (show -9223372036854775808≤(n:Int)-1 by omega) (show(n:Int)-1<9223372036854775808 by omega)];rw[cndW_iff];refine⟨λh2=>?_,λh2=>?_⟩
    ·rw[if_pos h2] at a4 a5;refine LoopPost.next ((n:Int),cn+1,n) rfl ⟨by simp only;omega,by simp only;omega,by simp only;omega,by simp only;omega,?_,.inr ⟨n,hn,rfl⟩,rfl⟩ (by simp only;omega);simp only
     rw[a5];by_cases hf:0≤fstE e.c (l.take n)
     ·simp[hf]
     ·simp[hf,show(0:Int)≤(n:Int) by omega]
    ·rw[if_neg (by simp[h2])] at a4;rw[if_neg (show¬alikeC l[n].c e.c=true by simp[h2])] at a5;refine LoopPost.next (fi,cn,n) rfl ⟨by simp only;omega,by simp only;omega,by simp only;omega,by simp only;omega,?_,a6,rfl⟩ (by simp only;omega);simp only
     rw[a5];by_cases hf:0≤fstE e.c (l.take n)
     ·simp[hf]
     ·simp[hf]
   ·obtain rfl:n=s:=by omega
    obtain⟨b1,b2⟩:=cntE_since (e:=e.c) es;rw[b1,Nat.add_zero] at a4;rw[b2,if_neg (by decide)] at a5;simp only[amS,r0.call,show¬(n:Int)≤(n:Int)-1 by omega,false_implies,true_implies,not_false_eq_true];by_cases h3:3≤cn
    ·rcases a6 with a6|⟨k,hk,rfl⟩
     ·omega
     rw[if_neg (by omega)] at a5;obtain⟨u1,r1,hu1⟩:=f101 (h:=h1) hv hk (by omega);have hk2:(dropAt l k).length≤l.length:=by unfold dropAt;rw[List.length_append,List.length_take,List.length_drop];omega
     have c1:At (put h1 id o u1) id o u1:=hc.put;obtain⟨e',he',r2⟩:=f103 (h:=put h1 id o u1) he;obtain⟨u2,r3,hu2⟩:=f102 (h:=put h1 id o u1) hu1 e' (Nat.le_refl (dropAt l k).length) (by omega);rw[List.take_length,List.drop_length] at hu2;simp only[amS,show(3:Int)≤(cn:Int) by omega,not_true_eq_false,false_implies,true_implies,hc.load,Nat.add_zero,r1.call,hc.store (IsFmts.cells hu1),c1.load,IsSl.lenM hu1,r2.call,W_same_self,r3.call,c1.store (IsFmts.cells hu2),put_put];refine⟨_,rfl,rfl,e',u2,he',rfl,?_⟩;rw[pushed,if_pos ⟨h0,by omega⟩,a5,Int.toNat_natCast];exact hu2
    ·obtain⟨e',he',r1⟩:=f103 (h:=h1) he;obtain⟨u,r2,hu⟩:=f102 (h:=h1) hv e' (Nat.le_refl l.length) (by omega);rw[List.take_length,List.drop_length] at hu;simp only[amS,show¬(3:Int)≤(cn:Int) by omega,false_implies,true_implies,not_false_eq_true,hc.load,Nat.add_zero,hv'.lenM,r1.call,W_same_self,r2.call,hc.store (IsFmts.cells hu)];refine⟨_,rfl,rfl,e',u,he',rfl,?_⟩;rw[pushed,if_neg (by omega)];exact hu
 obtain⟨r,h',hr,rfl,e',u,he',rfl,hu⟩:=hev.ret;exact⟨u,e',he',hr,hu⟩
end
end
section
section
variable {h:AHeap} {v:AVal} {l:List Fmt} {id o:Nat}
theorem f208 (hs:LObj h id o l) (hb:l.length≤900000000) (node:Int) {e:Fmt} (he:FOk e):∃u t e',e'.c=e.c∧Ret cx 176 [.ptr (some (id,o)),.int .i64 node,.agg e.row] h (.bool (decide (0≤entIdx node l))) (put h id o u++t)∧IsFmts (if entIdx node l<0 then l else l.set (entIdx node l).toNat e') u:=by
 obtain⟨v,hc,hv⟩:=(show LObj h id o l from hs);rcases entIdx_spec node l with h1|⟨k,hk,h1⟩
 ·refine⟨v,[],e,rfl,?_,by rw[h1];exact hv⟩;have e2:=hc.frzSame (IsSl.frz hv);rw[ret_iff,t176_eq,t176,hc.same,List.append_nil];simp only[amS,Fmt.len_row,(f41 hc hv (by omega) node).call,h1,show(-1:Int)<0 by decide,not_true_eq_false,true_implies,false_implies,e2];rfl
 ·have hne:l≠[]:=by intro e;subst e;simp at hk
  have hcl:=f138 (h:=h) hv hne (by omega);have s1:=(hc.app (t:=[AObj.cells (l.map Fmt.row).flatten])).store (u:= .msl h.length 0 l.length 3) rfl;rw[put_app hc] at s1;obtain⟨e',he',r1⟩:=f103 (h:=put h id o (.msl h.length 0 l.length 3)++[AObj.cells (l.map Fmt.row).flatten]) he;obtain⟨c3,c2,c4⟩:=hc.next (w:= .msl h.length 0 l.length 3) (X:= .cells (l.map Fmt.row).flatten) (Y:= .cells ((l.map Fmt.row).set k e'.row).flatten);have s2:=hstore_rows (z:=3) (rowF l) c3 (i:=k) (by simpa using hk) (q:=e'.row) rfl;rw[c4] at s2;have e4:peval (.eaddr 3) [.msl h.length 0 l.length 3,.int .i64 (k:Int)]=some (.ptr (some (h.length,k*3))):=eaddr_msl hk;have e2:=hc.frzNext (set_rows (rowF l) (i:=k) (q:=e'.row) rfl);rw[List.length_set,List.length_map] at e2;refine⟨.sl 3 ((l.map Fmt.row).set k e'.row),[.dead],e',he',?_,?_⟩
  ·rw[ret_iff,t176_eq,t176];simp only[amS,Fmt.len_row,Fmt.g0,Fmt.g1,Fmt.g2,Fmt.fold,(f41 hc hv (by omega) node).call,h1,show¬(k:Int)<0 by omega,not_false_eq_true,true_implies,false_implies,hc.load,Nat.add_zero,hcl.call,s1,c2.load,r1.call,W_same_self,e4,s2,e2,show(0:Int)≤(k:Int) by omega,decide_true]
  ·rw[h1,if_neg (by omega),Int.toNat_natCast,←List.map_set];exact .mk
end
end
end Go.Am
end
section
namespace Go.Am
open Go
set_option maxRecDepth 100000
def avOf:List Attr→AVal
 |[]=> .slnil
 |x::l=> .sl 3 ((x::l).map Attr.row)
theorem avOf_is {l:List Attr}:IsAttrs l (avOf l):=by cases l;exact .inr ⟨rfl,rfl⟩;exact .inl rfl
theorem avOf_snoc {l:List Attr} {x:Attr}:avOf (l++[x])= .sl 3 ((l++[x]).map Attr.row):=by cases l<;>rfl
structure PN where
 x:ANode
 kv:AVal
 av:AVal
 ok:av=avOf x.attrs
def PN.row (p:PN):List AVal:=[.int .i64 p.x.kind,.int .i64 p.x.par,p.kv,.int .i64 p.x.doc,.int .i64 p.x.space,.str p.x.name,p.av,.str p.x.data,.str p.x.pub,.str p.x.sys,.bool p.x.quirks,.int .i64 p.x.cont,.int .i64 p.x.host]
theorem PN.len_row {p:PN}:p.row.length=13:=rfl
def PN.zero:PN:=⟨{},.slnil,.slnil,rfl⟩
def pN (ps:List PN) (x:Int):PN:=ps.getD (x.toNat-1) PN.zero
def intRow (n:Int):List AVal:=[.int .i64 n]
def IsInts (l:List Int) (v:AVal):Prop:=IsSl 1 (l.map intRow) v
def KidsAt (h:AHeap) (kv:AVal) (l:List Int):Prop:=(kv= .slnil∧l=[])∨∃id cs,kv= .msl id 0 l.length 1∧h[id]?=some (.cells (l.map (AVal.int .i64)++cs))
def kid?:AVal→Option Nat
 | .msl id _ _ _=>some id
 |_=>none
def MapAt (h:AHeap) (m:Option Nat) (f:Int→Int):Prop:=(m=none∧∀k,f k=0)∨∃(id:Nat) (l:List (Int×Int)),m=some id∧h[id]?=some (.map (l.map λx:Int×Int=>(AVal.int .i64 x.1,AVal.int .i64 x.2)))∧∀k,(l.find? λx=>decide (k=x.1)).map (·.2)=if f k=0 then none else some (f k)
def ids (a n:Nat) (m:Option Nat) (ps:List PN):List Nat:=a::n::(m.toList++ps.filterMap λp=>kid? p.kv)
structure PA (h:AHeap) (a n:Nat) (m:Option Nat) (ps:List PN) (A:Ar):Prop where
 e:A.n=ps.map PN.x
 il:A.i.length=A.n.length
 ha:h[a]?=some (.cells [.msl n 0 ps.length 13,.map m])
 hn:h[n]?=some (.cells (ps.map PN.row).flatten)
 ks:∀p∈ps,KidsAt h p.kv p.x.kids
 nd:(ids a n m ps).Nodup
 mp:MapAt h m A.inr
structure Ext (h:AHeap) (F:Nat→Prop) (h':AHeap) (F':Nat→Prop):Prop where
 len:h.length≤h'.length
 old:∀i,i<h.length→¬F i→h'[i]?=h[i]?
 own:∀i,F' i→F i∨h.length≤i
section
variable {h h' h'' t:AHeap} {F F' F'':Nat→Prop}
theorem Ext.refl:Ext h F h F:=⟨Nat.le_refl _,λ_ _ _=>rfl,λ_ h=> .inl h⟩
theorem Ext.trans (x:Ext h F h' F') (y:Ext h' F' h'' F''):Ext h F h'' F'':=
 ⟨Nat.le_trans x.len y.len,λi hi hF=>by
  rw[y.old i (Nat.lt_of_lt_of_le hi x.len) (λh=>by rcases x.own i h with h|h;exact hF h;omega)];exact x.old i hi hF,λi hi=>by
  rcases y.own i hi with h|h
  ·exact x.own i h
  ·exact .inr (Nat.le_trans x.len h)⟩
theorem Ext.app:Ext h F (h++t) F:=⟨by simp,λi hi _=>List.getElem?_append_left hi,λ_ h=> .inl h⟩
end
def PW (h:AHeap) (F:Nat→Prop) (a:Nat) (A:Ar):Prop:=∃n m ps,PA h a n m ps A∧∀i,F i↔i∈ids a n m ps
section
variable {h h':AHeap} {a n:Nat} {m:Option Nat} {ps:List PN} {A:Ar} {x:Int} {F:Nat→Prop}
theorem KidsAt.frame {kv:AVal} {l:List Int} (hk:KidsAt h kv l) (hf:∀id,kid? kv=some id→h'[id]?=h[id]?):KidsAt h' kv l:=by
 rcases hk with⟨rfl,rfl⟩|⟨id,cs,rfl,hc⟩
 ·exact .inl ⟨rfl,rfl⟩
 ·exact .inr ⟨id,cs,rfl,by rw[hf id rfl];exact hc⟩
theorem MapAt.frame {f:Int→Int} (hk:MapAt h m f) (hf:∀id,m=some id→h'[id]?=h[id]?):MapAt h' m f:=by
 rcases hk with h1|⟨id,l,rfl,hc,h2⟩
 ·exact .inl h1
 ·exact .inr ⟨id,l,rfl,by rw[hf id rfl];exact hc,h2⟩
theorem mem_ids_kid {p:PN} {id:Nat} (hp:p∈ps) (hk:kid? p.kv=some id):id∈ids a n m ps:=by unfold ids;simp only[List.mem_cons,List.mem_append];exact .inr (.inr (.inr (List.mem_filterMap.2 ⟨p,hp,hk⟩)))
theorem PA.frame (w:PA h a n m ps A) (hf:∀i∈ids a n m ps,h'[i]?=h[i]?):PA h' a n m ps A:=
 ⟨w.e,w.il,by rw[hf a (by simp[ids])];exact w.ha,by rw[hf n (by simp[ids])];exact w.hn,λp hp=>(w.ks p hp).frame λid hk=>hf id (mem_ids_kid hp hk),w.nd,w.mp.frame λid hm=>hf id (by simp[ids,hm])⟩
theorem PA.lt (w:PA h a n m ps A):∀i∈ids a n m ps,i<h.length:=by
 intro i hi;unfold ids at hi;simp only[List.mem_cons,List.mem_append,List.mem_filterMap] at hi;rcases hi with rfl|rfl|hi|⟨p,hp,hk⟩
 ·exact(List.getElem?_eq_some_iff.1 w.ha).1
 ·exact(List.getElem?_eq_some_iff.1 w.hn).1
 ·rcases w.mp with⟨rfl,_⟩|⟨id,l,rfl,hc,_⟩
  ·simp at hi
  ·simp at hi;subst hi;exact(List.getElem?_eq_some_iff.1 hc).1
 ·rcases w.ks p hp with⟨e,_⟩|⟨id,cs,e,hc⟩
  ·rw[e] at hk;cases hk
  ·rw[e] at hk;cases hk;exact(List.getElem?_eq_some_iff.1 hc).1
theorem PW.frame (w:PW h F a A) (hf:∀i,F i→h'[i]?=h[i]?):PW h' F a A:=by obtain⟨n,m,ps,w,e⟩:=w;exact⟨n,m,ps,w.frame λi hi=>hf i ((e i).2 hi),e⟩
theorem PW.lt (w:PW h F a A) {i:Nat} (hi:F i):i<h.length:=by obtain⟨n,m,ps,w,e⟩:=w;exact w.lt i ((e i).1 hi)
theorem PW.app {t:AHeap} (w:PW h F a A):PW (h++t) F a A:=w.frame λi hi=>List.getElem?_append_left (w.lt hi)
theorem PA.nlen (w:PA h a n m ps A):A.n.length=ps.length:=by rw[w.e,List.length_map]
theorem PA.at (w:PA h a n m ps A) (hx:A.has x):x.toNat-1<ps.length∧((x.toNat-1:Nat):Int)=x-1:=by have:=w.nlen;unfold Ar.has at hx;omega
theorem PA.pn (w:PA h a n m ps A) (hx:A.has x):ps[x.toNat-1]?=some (pN ps x)∧(pN ps x).x=A.nd x∧pN ps x∈ps:=by
 have h1:=(w.at hx).1;have h2:ps[x.toNat-1]?=some ps[x.toNat-1]:=List.getElem?_eq_getElem h1;have h3:pN ps x=ps[x.toNat-1]:=by unfold pN;rw[List.getD_eq_getElem?_getD,h2];rfl
 refine⟨by rw[h3];exact h2,?_,by rw[h3];exact List.getElem_mem _⟩;unfold Ar.nd;rw[if_pos hx,w.e,h3,List.getD_eq_getElem?_getD,List.getElem?_map,h2];rfl
theorem flat_get {rows:List (List AVal)} {z i k:Nat} (hr:∀r∈rows,r.length=z) (hk:k<z) {r:List AVal} (hi:rows[i]?=some r):rows.flatten[i*z+k]?=r[k]?:=by
 have h1:(rows.flatten.drop (i*z))[k]?=r[k]?:=by rw[flat_drop hr];obtain⟨hlt,e⟩:=List.getElem?_eq_some_iff.1 hi;rw[List.drop_eq_getElem_cons hlt,e,List.flatten_cons,List.getElem?_append_left (by rw[hr r (e▸List.getElem_mem hlt)];exact hk)]
 rwa [List.getElem?_drop] at h1
theorem rowP (l:List PN):∀r∈l.map PN.row,r.length=13:=map_rows (f:=PN.row) (λ_=>PN.len_row) l
def nP (n:Nat) (x:Int):Nat:=(x.toNat-1)*13
theorem PA.fld (w:PA h a n m ps A) (hx:A.has x) {k:Nat} (hk:k<13):hload h none (.ptr (some (n,nP n x+k)))=(pN ps x).row[k]?:=by unfold nP;simp only[hload,w.hn,partOf_none];exact flat_get (rowP ps) hk (by rw[List.getElem?_map,(w.pn hx).1];rfl)
theorem f46w (w:PA h a n m ps A):Ret cx 80 [.ptr (some (a,0)),.int .i64 x] h (.bool (decide (A.has x))) h:=by
 have e1:hload h none (.ptr (some (a,0)))=some (.msl n 0 ps.length 13):=by simp only[hload,w.ha];rfl
 have e2:peval (.len false) [.msl n 0 ps.length 13]=some (.int .i64 (ps.length:Int)):=rfl;rw[ret_iff,t80_eq,t80];simp only[amS,bxS,e1,e2];have hl:=w.nlen;have e3:A.has x↔1≤x∧x≤(ps.length:Int):=by unfold Ar.has;rw[hl]
 refine⟨λh1=>?_,λh1=>?_⟩
 ·congr 2;rw[decide_eq_decide,e3];exact⟨λh=>⟨h1,h⟩,λh=>h.2⟩
 ·rw[decide_eq_false (λh=>h1 (e3.1 h).1)]
theorem PA.nodes (w:PA h a n m ps A):hload h none (.ptr (some (a,0)))=some (.msl n 0 ps.length 13):=by simp only[hload,w.ha];rfl
theorem PA.len (w:PA h a n m ps A):((ps.length:Nat):Int)=A.len:=by unfold Ar.len;rw[w.nlen]
theorem f107w (w:PA h a n m ps A) {l:List Int} {v:AVal} (hv:IsInts l v) (hb:l.length≤1000):Ret cx 54 [.ptr (some (a,0)),v] h (.int .i64 (if∀x∈l,A.has x then 0 else 3)) h:=by
 have hv:IsSl 1 (l.map intRow) v:=hv;rw[ret_iff,t54_eq,t54];simp only[amS,bxS,hv.lenM];refine W_loop_st (λk:Nat=>[.int .i64 0,.int .i64 (k:Int)]) (λk h1=>k≤l.length∧(∀x∈l.take k,A.has x)∧h1=h) (λk=>l.length-k) 0 rfl ⟨Nat.zero_le _,by simp,rfl⟩ ?_;rintro k h1 ⟨hk,ha,rfl⟩;rcases Nat.lt_or_ge k l.length with hlt|hge
 ·have i1:(k:Int)<(l.length:Int):=by omega
  have e1:hload h1 none (.rptr (intRow l[k]))=some (.int .i64 l[k]):=rfl;simp only[amS,bxS,i1,hv.eaddrM hlt,e1,(f46w (x:=l[k]) w).call,pe_inc (show k<9223372036854775807 by omega)];rw[cndW_iff];refine⟨λh2=>?_,λh2=>?_⟩
  ·have h2:¬A.has l[k]:=by simpa using h2
   rw[if_neg (λh3=>h2 (h3 _ (List.getElem_mem hlt)))]
  ·have h2:A.has l[k]:=by simpa using h2
   refine LoopPost.next (k+1) rfl ⟨hlt,?_,rfl⟩ (by omega);intro x hx;rw[List.take_succ_eq_append_getElem hlt,List.mem_append,List.mem_singleton] at hx;rcases hx with hx|rfl
   ·exact ha x hx
   ·exact h2
 ·have i1:¬(k:Int)<(l.length:Int):=by omega
  rw[List.take_of_length_le hge] at ha;simp only[amS,bxS,i1,if_pos ha]
theorem f107_1 (w:PA h a n m ps A):Ret cx 54 [.ptr (some (a,0)),.sl 1 [[.int .i64 x]]] h (.int .i64 (if A.has x then 0 else 3)) h:=by have:=f107w w (l:=[x]) (v:= .sl 1 [[.int .i64 x]]) .mk (by simp);simpa using this
theorem f107_2 {y:Int} (w:PA h a n m ps A):Ret cx 54 [.ptr (some (a,0)),.sl 1 [[.int .i64 x],[.int .i64 y]]] h (.int .i64 (if A.has x∧A.has y then 0 else 3)) h:=by have:=f107w w (l:=[x,y]) (v:= .sl 1 [[.int .i64 x],[.int .i64 y]]) .mk (by simp);simpa using this
theorem pe_mksl_i {x:Int}:peval (.mksl 1) [.int .i64 x]=some (.sl 1 [[.int .i64 x]]):=rfl
theorem pe_mksl_ii {x y:Int}:peval (.mksl 1) [.int .i64 x,.int .i64 y]=some (.sl 1 [[.int .i64 x],[.int .i64 y]]):=rfl
theorem Lim.of (lm:Lim A) (hx:A.has x):1≤x∧x≤1000000000:=by have:=lm.n;unfold Ar.has at hx;omega
theorem f94w (w:PA h a n m ps A) (lm:Lim A) (hx:A.has x):Ret cx 55 [.ptr (some (a,0)),.int .i64 x] h (.ptr (some (n,nP n x))) h:=by
 have hr:=lm.of hx;have e1:=(w.at hx).2;have e2:peval (.eaddr 13) [.msl n 0 ps.length 13,.int .i64 (x-1)]=some (.ptr (some (n,nP n x))):=by rw[←e1];exact eaddr_msl (w.at hx).1
 rw[ret_iff,t55_eq,t55];simp only[amS,bxS,w.nodes,pe_subI (show -9223372036854775808≤x-1 by omega) (show x-1<9223372036854775808 by omega),e2]
theorem PA.f0 (w:PA h a n m ps A) (hx:A.has x):hload h none (.ptr (some (n,nP n x)))=some (.int .i64 (A.nd x).kind):=by have:=w.fld hx (k:=0) (by decide);rw[←(w.pn hx).2.1];exact this
theorem PA.f1 (w:PA h a n m ps A) (hx:A.has x):hload h none (.ptr (some (n,nP n x+1)))=some (.int .i64 (A.nd x).par):=by have:=w.fld hx (k:=1) (by decide);rw[←(w.pn hx).2.1];exact this
theorem PA.f2 (w:PA h a n m ps A) (hx:A.has x):hload h none (.ptr (some (n,nP n x+2)))=some (pN ps x).kv:=by have:=w.fld hx (k:=2) (by decide);exact this
theorem PA.f3 (w:PA h a n m ps A) (hx:A.has x):hload h none (.ptr (some (n,nP n x+3)))=some (.int .i64 (A.nd x).doc):=by have:=w.fld hx (k:=3) (by decide);rw[←(w.pn hx).2.1];exact this
theorem PA.f4 (w:PA h a n m ps A) (hx:A.has x):hload h none (.ptr (some (n,nP n x+4)))=some (.int .i64 (A.nd x).space):=by have:=w.fld hx (k:=4) (by decide);rw[←(w.pn hx).2.1];exact this
theorem PA.f5 (w:PA h a n m ps A) (hx:A.has x):hload h none (.ptr (some (n,nP n x+5)))=some (.str (A.nd x).name):=by have:=w.fld hx (k:=5) (by decide);rw[←(w.pn hx).2.1];exact this
theorem PA.f6 (w:PA h a n m ps A) (hx:A.has x):hload h none (.ptr (some (n,nP n x+6)))=some (pN ps x).av:=by have:=w.fld hx (k:=6) (by decide);exact this
theorem PA.kid (w:PA h a n m ps A) (hx:A.has x):KidsAt h (pN ps x).kv (A.nd x).kids:=by rw[←(w.pn hx).2.1];exact w.ks _ (w.pn hx).2.2
theorem PA.att (w:PA h a n m ps A) (hx:A.has x):(pN ps x).av=avOf (A.nd x).attrs:=by rw[←(w.pn hx).2.1];exact(pN ps x).ok
theorem PA.row (w:PA h a n m ps A) (hx:A.has x):hload h (some 13) (.ptr (some (n,nP n x)))=some (.agg (pN ps x).row):=by
 have h1:((ps.map PN.row).flatten.drop (nP n x)).take 13=(pN ps x).row∧nP n x+13≤(ps.map PN.row).flatten.length:=by unfold nP;have hlt:=(w.at hx).1;have hg:=(w.pn hx).1;rw[flat_drop (rowP ps),flat_len (rowP ps),List.length_map];refine⟨?_,by omega⟩;rw[←List.map_drop,List.drop_eq_getElem_cons hlt,List.map_cons,List.flatten_cons];rw[List.getElem?_eq_getElem hlt,Option.some.injEq] at hg;rw[hg];exact List.take_left' PN.len_row
 simp only[hload,w.hn,partOf_some];rw[if_pos h1.2,h1.1]
theorem rowsFrom_ints:∀{l:List Int} {cs pre:List AVal},rowsFrom (pre++(l.map (AVal.int .i64)++cs)) 1 pre.length l.length=l.map intRow
 |[],_,_=>rfl
 |x::l,cs,pre=>by have:=rowsFrom_ints (l:=l) (cs:=cs) (pre:=pre++[.int .i64 x]);simp only[List.append_assoc,List.length_append,List.length_singleton] at this;simp only[List.map_cons,List.length_cons,rowsFrom,List.cons_append];rw[List.drop_left' rfl];simp only[List.cons_append,List.nil_append] at this;rw[this];rfl
theorem KidsAt.rows {kv:AVal} {l:List Int} (hk:KidsAt h kv l):rowsAt h 1 kv=some (l.map intRow):=by
 rcases hk with⟨rfl,rfl⟩|⟨id,cs,rfl,hc⟩
 ·rfl
 ·have:=rowsFrom_ints (l:=l) (cs:=cs) (pre:=[]);simp only[List.nil_append,List.length_nil] at this;simp only[rowsAt,if_true,hc,this];rw[if_pos (by simp)]
theorem KidsAt.len {kv:AVal} {l:List Int} (hk:KidsAt h kv l):peval (.len false) [kv]=some (.int .i64 (l.length:Int)):=by rcases hk with⟨rfl,rfl⟩|⟨id,cs,rfl,hc⟩<;>rfl
theorem KidsAt.cells {kv:AVal} {l:List Int} (hk:KidsAt h kv l):kv.cells=[kv]:=by rcases hk with⟨rfl,rfl⟩|⟨id,cs,rfl,hc⟩<;>rfl
theorem f196w {kv:AVal} {l:List Int} (hk:KidsAt h kv l) (hb:l.length≤1000000000):∃v,Ret cx 87 [kv] h v h∧IsInts l v:=by
 have hr:=hk.rows;rcases hk with⟨rfl,rfl⟩|⟨id,cs,rfl,hc⟩
 ·exact⟨.slnil,by rw[ret_iff,t87_eq,t87];simp only[amS,show peval (.nileq false .sl) [.slnil,.slnil]=some (.bool true) from rfl],.inr ⟨rfl,rfl⟩⟩
 ·refine⟨.sl 1 (l.map intRow),?_,.mk⟩;have e1:happM h 1 8 (.sl 1 []) (.msl id 0 l.length 1)=some (.sl 1 (l.map intRow)):=by
   unfold happM;rw[hr,Option.bind_some]
   cases l with
   |nil=>rfl
   |cons x l=>
    have:(x::l).length*8≤maxBytes:=by have:maxBytes=140737488355328:=rfl;omega
    simp only[List.map_cons,appendTo,List.length_cons,List.length_map,List.length_nil] at this⊢;rw[if_pos ⟨trivial,by simpa using this⟩];rfl
  rw[ret_iff,t87_eq,t87];simp only[amS,show peval (.nileq false .sl) [.msl id 0 l.length 1,.slnil]=some (.bool false) from rfl,show peval (.mksl 1) []=some (.sl 1 []) from rfl,e1]
def AttrsAt (h:AHeap) (v:AVal) (l:List Attr):Prop:=(v= .slnil∧l=[])∨∃id,v= .msl id 0 l.length 3∧h[id]?=some (.cells (l.map Attr.row).flatten)∧id<h.length
theorem AttrsAt.app {v:AVal} {l:List Attr} {t:AHeap} (hv:AttrsAt h v l):AttrsAt (h++t) v l:=by
 rcases hv with h1|⟨id,e,hc,hl⟩
 ·exact .inl h1
 ·exact .inr ⟨id,e,by rw[List.getElem?_append_left hl];exact hc,by rw[List.length_append];omega⟩
theorem AttrsAt.cells {v:AVal} {l:List Attr} (hv:AttrsAt h v l):v.cells=[v]:=by rcases hv with⟨rfl,_⟩|⟨id,rfl,_,_⟩<;>rfl
structure AttrsIn (h:AHeap) (v:AVal) (l:List Attr):Prop where
 len:peval (.len false) [v]=some (.int .i64 (l.length:Int))
 at_:∀k (hk:k<l.length),∃p,peval (.eaddr 3) [v,.int .i64 (k:Int)]=some p∧hload h (some 3) p=some (.agg l[k].row)
theorem attrs_in {v:AVal} {l:List Attr} (hv:IsAttrs l v):AttrsIn h v l:=⟨IsSl.lenM hv,λk hk=>⟨_,IsSl.eaddrM hv hk,rfl⟩⟩
theorem rowA (l:List Attr):∀r∈l.map Attr.row,r.length=3:=map_rows (f:=Attr.row) (λ_=>rfl) l
theorem AttrsAt.in_ {v:AVal} {l:List Attr} (hv:AttrsAt h v l):AttrsIn h v l:=by
 rcases hv with⟨rfl,rfl⟩|⟨id,rfl,hc,_⟩
 ·exact⟨rfl,λk hk=>by simp at hk⟩
 ·refine⟨rfl,λk hk=>⟨.ptr (some (id,k*3)),eaddr_msl hk,?_⟩⟩;simp only[hload,hc,partOf_some];rw[if_pos (by rw[flat_len (rowA l),List.length_map];omega),flat_drop (rowA l),←List.map_drop,List.drop_eq_getElem_cons hk,List.map_cons,List.flatten_cons];rfl
def Up (N:Nat) (v:AVal):Prop:=∀id k,v= .msl id 0 k 3→N≤id
theorem f100045w {v:AVal} {l:List Attr} (hv:v=avOf l) (hb:l.length≤1000000000):∃u t,Ret cx 100063 [v] h u (h++t)∧AttrsAt (h++t) u l∧Up h.length u:=by
 cases l with
 |nil=>refine⟨.slnil,[],?_,.inl ⟨rfl,rfl⟩,λ_ _ e=>nomatch e⟩;rw[List.append_nil,ret_iff,t100063_eq,t100063,hv];simp only[amS,avOf,show peval (.nileq false .sl) [.slnil,.slnil]=some (.bool true) from rfl]
 |cons x l=>have e:=hobjOf_some (h:=h) (s:= .sl 3 []) (z:=3) (b:=40) (.inr rfl) (IsSl.mk (z:=3) (rows:=(x::l).map Attr.row)) (by simp) (by rw[List.length_map];have:maxBytes=140737488355328:=rfl;omega);rw[List.length_map] at e;refine⟨.msl h.length 0 (x::l).length 3,[.cells ((x::l).map Attr.row).flatten],?_,.inr ⟨h.length,rfl,by simp,by simp⟩,λ_ _ e=>by injection e with e;omega⟩;rw[ret_iff,t100063_eq,t100063,hv];simp only[amS,avOf,show peval (.nileq false .sl) [.sl 3 ((x::l).map Attr.row),.slnil]=some (.bool false) from rfl,show peval (.mksl 3) []=some (.sl 3 []) from rfl,e]
def NRow (h:AHeap) (N:Nat) (x:ANode) (r:List AVal):Prop:=∃K V,r=[.int .i64 x.kind,.int .i64 x.par,K,.int .i64 x.doc,.int .i64 x.space,.str x.name,V,.str x.data,.str x.pub,.str x.sys,.bool x.quirks,.int .i64 x.cont,.int .i64 x.host]∧IsInts x.kids K∧AttrsAt h V x.attrs∧Up N V
theorem NRow.app {x:ANode} {r:List AVal} {t:AHeap} {N:Nat} (hr:NRow h N x r):NRow (h++t) N x r:=let⟨K,V,e,h1,h2,h3⟩:=hr;⟨K,V,e,h1,h2.app,h3⟩
theorem f184w (w:PA h a n m ps A) (lm:Lim A) (hx:A.has x) (hkb:(A.nd x).kids.length≤1000000000):∃r t,Ret cx 56 [.ptr (some (n,nP n x))] h (.agg r) (h++t)∧NRow (h++t) h.length (A.nd x) r:=by obtain⟨K,r1,hK⟩:=f196w (w.kid hx) hkb;obtain⟨V,t,r2,hV,hU⟩:=f100045w (h:=h) (w.att hx) (lm.at_ x);refine⟨_,t,?_,K,V,rfl,hK,hV,hU⟩;have hc:K.cells=[K]:=IsSl.cells hK;have e0:=w.row hx;have e1:(pN ps x).row=_:=rfl;have ex:=(w.pn hx).2.1;rw[ret_iff,t56_eq,t56];rw[PN.row,ex] at e0;simp only[amS,bxS,e0,w.f2 hx,w.f6 hx,r1.call,W_same_self,r2.call,hc,hV.cells]
end
end Go.Am
end
