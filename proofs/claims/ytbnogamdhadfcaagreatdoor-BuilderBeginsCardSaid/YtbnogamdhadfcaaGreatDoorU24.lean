/- Lemmas -/
import Derived.Test.YtbnogamdhadfcaaGreatDoorU10
import Derived.Test.YtbnogamdhadfcaaGreatDoorU18
set_option linter.unusedVariables false
set_option linter.unusedSimpArgs false
namespace Go.Am
open Go
def aFm(p q r:Aa):IT:=
 .call 164 [p,q] λa=>.nt [a] λb=>.AH b (.rr [I 3]) (.BV p 0 λ_ _ c=>.ea 13 [c,q] λd=>.fl d 0 λ_ e=>.iq [e,I 4] λf=>.AH f (.rr [I 9]) (.call 79 [r] λh=>.nt [h] λj=>.AH j (.rr [I 2]) (.BV p 0 λ_ k m=>.call 80 [r] λn=>.ld k λo=>.same m o (.ea 13 [m,q] λs=>.op (.D8 6) [s] λu=>.store 1 u n (.rr [I 0])))))
theorem mw:LW cx 221 aFm:=λ_ _ _=>by kernel_rfl
def aFn(p q:Aa):IT:=
 .loop 3 [I (-1),I 0] (λa=>.ln [p] λb=>.il [g a 1,b] λc=>.AH c (.ea 4 [p,g a 1] λd=>.load (some 4) d λe=>.op (.By 1) [q] λf=>.call 214 [e,f] λh=>.AH h (.ia [g a 1,I 1] λj=>.rn [g a 1,j]) (.ia [g a 1,I 1] λk=>.rn [g a 0,k])) (.rx 0 [g a 0,g a 1])) (lx 0 (λm=>.rr [g m 0]) λm=>.rr [I 0])
theorem my:DO cx 222 aFn:=λ_ _=>by kernel_rfl
def aFo(p:Aa):IT:=
 .cells 3 p λa=>.op (.append 3 40) [.slnil,g a 2] λb=>.cells 1 b λc=>.cells 3 (.agg [g a 0,g a 1,g c 0]) λd=>.rr [a3 d]
theorem mz:GP cx 223 aFo:=λ_=>by kernel_rfl
def aFp(p:Aa):IT:=
 .loop 3 [I 0,I 0] (λa=>.ln [p] λb=>.il [g a 1,b] λc=>.AH c (.ea 3 [p,g a 1] λd=>.fl d 0 λ_ e=>.ie [e,I 0] λf=>.AH f (.ia [g a 1,I 1] λh=>.ia [g a 1,I 1] λj=>.rn [h,j]) (.ia [g a 1,I 1] λk=>.rn [g a 0,k])) (.rx 0 [g a 0,g a 1])) (lx 0 (λm=>.rr [g m 0]) λm=>.rr [I 0])
theorem m_:GP cx 224 aFp:=λ_=>by kernel_rfl
def aFq(p q:Aa):IT:=
 .il [q,I 1] λa=>.AH a (.ln [p] λb=>.ig [I 1,b] λc=>.AH c (.ln [p] λd=>.op (.Hs 4 false false true) [p,d] λe=>.Ht 4 40 .slnil e λf=>.rr [f]) (.op (.Hs 4 false false true) [p,I 1] λh=>.Ht 4 40 .slnil h λj=>.rr [j])) (.ln [p] λk=>.ig [q,k] λm=>.AH m (.ln [p] λn=>.op (.Hs 4 false false true) [p,n] λo=>.Ht 4 40 .slnil o λs=>.rr [s]) (.op (.Hs 4 false false true) [p,q] λu=>.Ht 4 40 .slnil u λw=>.rr [w]))
theorem nc:DO cx 225 aFq:=λ_ _=>by kernel_rfl
def aFr(p q:Aa):IT:=
 .loop 3 [.slnil,I 0] (λa=>.ln [q] λb=>.il [g a 1,b] λc=>.AH c (.ea 3 [q,g a 1] λd=>.fl d 1 λ_ e=>.ea 3 [q,g a 1] λf=>.fl f 2 λ_ h=>.op (.Br [I 0,S [],S []] [(1,1),(2,1)]) [e,h] λj=>.cells 3 j λk=>.Dg 200006 (.ie [p,I 3] λm=>.AH m (.se [g k 1,S aS9] λn=>.rn [n]) (.rn [ff])) (λx o=>match x with| .normal=>.Dg 100031 (.AH (g o 0) (.cells 1 (S aTb) λs=>.rn [.agg [g k 0,g s 0,g k 2]]) (.rn [a3 k])) (λx u=>.cells 3 (g u 0) λw=>match x with| .normal=>.ie [p,I 2] λy=>.Dg 100034 (.AH y (.Be 284 [S aSD,g w 1] λz=>.cells 1 z λa0=>.rn [.agg [g w 0,g a0 0,g w 2]]) (.rn [a3 w])) (λx a1=>.cells 3 (g a1 0) λa2=>match x with| .normal=>.Dg 200010 (.ie [p,I 3] λa5=>.AH a5 (.rn [tt]) (.ie [p,I 2] λa7=>.rn [a7])) (λx a8=>match x with| .normal=>.Dg 100044 (.AH (g a8 0) (.Be 188 [S aSH,g a2 1] λb0=>.Dg 100045 (.AH b0 (.op (.Hs 0 true true false) [g a2 1,I 6] λb1=>.cells 1 (I 4) λb2=>.cells 1 b1 λb3=>.rn [.agg [g b2 0,g b3 0,g a2 2]]) (.Dg 200013 (.se [g a2 1,S aTa] λb4=>.AH b4 (.rn [tt]) (.se [g a2 1,S aS1] λb5=>.rn [b5])) (λx b6=>match x with| .normal=>.Dg 100054 (.AH (g b6 0) (.op (.Hs 0 true true false) [g a2 1,I 4] λb7=>.cells 1 (I 5) λb8=>.cells 1 b7 λb9=>.rn [.agg [g b8 0,g b9 0,g a2 2]]) (.se [g a2 1,S aS2] λc1=>.Dg 100068 (.AH c1 (.cells 1 (I 6) λc2=>.rn [.agg [g c2 0,g a2 1,g a2 2]]) (.se [g a2 1,S aSS] λc3=>.Dg 100073 (.AH c3 (.cells 1 (I 6) λc4=>.cells 1 (S aTi) λc5=>.rn [.agg [g c4 0,g c5 0,g a2 2]]) (.rn [a3 a2])) (λx c6=>.cells 3 (g c6 0) λc7=>.ret x [a3 c7]))) (λx c8=>.cells 3 (g c8 0) λc9=>.ret x [a3 c9]))) (λx d0=>.cells 3 (g d0 0) λd1=>.ret x [a3 d1])| .exit i=>.ret (.exit i) [a3 a2]| .ret=>.rr [a3 a2]))) (λx d2=>.cells 3 (g d2 0) λd3=>match x with| .normal=>.rn [a3 d3]| .exit i=>if i=2 then .rn [a3 d3] else .ret (.exit i) [a3 d3]| .ret=>.rr [a3 d3])) (.rn [a3 a2])) (λx d4=>.cells 3 (g d4 0) λd5=>match x with| .normal=>.op (.By 3) [a3 d5] λd6=>.op (.append 3 40) [g a 0,d6] λd7=>.ia [g a 1,I 1] λd8=>.rn [d7,d8]| .exit i=>if i=1 then .ia [g a 1,I 1] λd9=>.rn [g a 0,d9] else .ret (.exit i) [g a 0,g a 1]| .ret=>.rr [g a 0,g a 1])| .exit i=>if i=1 then .ia [g a 1,I 1] λe0=>.rn [g a 0,e0] else .ret (.exit i) [g a 0,g a 1]| .ret=>.rr [g a 0,g a 1])| .exit i=>if i=1 then .ia [g a 1,I 1] λe1=>.rn [g a 0,e1] else .ret (.exit i) [g a 0,g a 1]| .ret=>.rr [g a 0,g a 1])| .exit i=>if i=1 then .ia [g a 1,I 1] λe2=>.rn [g a 0,e2] else .ret (.exit i) [g a 0,g a 1]| .ret=>.rr [g a 0,g a 1])| .exit i=>if i=1 then .ia [g a 1,I 1] λe3=>.rn [g a 0,e3] else .ret (.exit i) [g a 0,g a 1]| .ret=>.rr [g a 0,g a 1])) (.rx 0 [g a 0,g a 1])) (lx 0 (λe4=>.rr [g e4 0]) λe4=>.rr [.slnil])
theorem ng:DO cx 226 aFr:=λ_ _=>by kernel_rfl
def aFs(p:Aa):IT:=
 .Be 284 [S aSF,p] λa=>.rr [a]
theorem nh:GP cx 227 aFs:=λ_=>by kernel_rfl
def aFt(p q r:Aa):IT:=
 .call 185 [p,q] λa=>.ie [a,I 4] λb=>.AH b (.BV p 0 λ_ _ c=>.BV c 0 λ_ _ d=>.ea 13 [d,q] λe=>.fl e 4 λ_ f=>.ie [f,I 1] λh=>.AH h (.BV p 0 λ_ _ j=>.BV j 0 λ_ _ k=>.ea 13 [k,q] λm=>.fl m 5 λ_ n=>.Be 188 [r,n] λo=>.rr [o]) (.rr [ff])) (.rr [ff])
theorem ni:LW cx 228 aFt:=λ_ _ _=>by kernel_rfl
def aBm(p q r:Aa):IT:=
 .cells 1 r λa=>.call 285 [q] λb=>.cells 1 b λc=>.call 233 [p,.func (.func 286) [] [.CA [g a 0],.CA [g c 0]]] λd=>.ih [d,I 0] λe=>.AH e (.ld (.CA [g a 0]) λf=>.BV p 0 λ_ _ h=>.ea 4 [h,d] λj=>.load (some 4) j λk=>.FH f [k] λm=>.rr [m]) (.rr [ff])
theorem nX:LW cx 229 aBm:=λ_ _ _=>by kernel_rfl
def aFu(p q:Aa):IT:=
 .cells 4 p λa=>.ld q λb=>.call 158 [a4 a,b] λc=>.rr [c]
theorem nj:DO cx 230 aFu:=λ_ _=>by kernel_rfl
def aBn(p q:Aa):IT:=
 .cells 4 p λa=>.iq [g a 1,I 1] λb=>.AH b (.rr [tt]) (.Be 232 [g a 2] λc=>.nt [c] λd=>.AH d (.rr [tt]) (.ld q λe=>.se [g a 2,e] λf=>.rr [f]))
theorem nY:DO cx 231 aBn:=λ_ _=>by kernel_rfl
def aBo(p:Aa):IT:=
 .se [p,S [100,100]] λa=>.AH a (.rr [tt]) (.se [p,S [100,116]] λb=>.AH b (.rr [tt]) (.se [p,S [108,105]] λc=>.AH c (.rr [tt]) (.se [p,S aS3] λd=>.AH d (.rr [tt]) (.se [p,S aTg] λe=>.AH e (.rr [tt]) (.se [p,S [112]] λf=>.AH f (.rr [tt]) (.se [p,S [114,98]] λh=>.AH h (.rr [tt]) (.se [p,S [114,112]] λj=>.AH j (.rr [tt]) (.se [p,S [114,116]] λk=>.AH k (.rr [tt]) (.se [p,S [114,116,99]] λm=>.AH m (.rr [tt]) (.rr [ff]))))))))))
theorem nZ:GP cx 232 aBo:=λ_=>by kernel_rfl
def aBp(p q:Aa):IT:=
 .call 24 [p] λa=>.ib [a,I 1] λb=>.loop 2 [I 0,b] (λc=>.ih [g c 1,I 0] λd=>.AH d (.BV p 0 λ_ _ e=>.ea 4 [e,g c 1] λf=>.load (some 4) f λh=>.FH q [h] λj=>.AH j (.rr [g c 1,g c 1]) (.ib [g c 1,I 1] λk=>.rn [g c 0,k])) (.rx 0 [g c 0,g c 1])) (lx 0 (λm=>.rr [I (-1)]) λm=>.rr [g m 0])
theorem oA:DO cx 233 aBp:=λ_ _=>by kernel_rfl
def aBq(p q:Aa):IT:=
 .cells 4 p λa=>.ld q λb=>.ie [g a 0,b] λc=>.rr [c]
theorem oB:DO cx 234 aBq:=λ_ _=>by kernel_rfl
def aBr(p q:Aa):IT:=
 .cells 4 p λa=>.ld q λb=>.ie [g a 0,b] λc=>.rr [c]
theorem oC:DO cx 235 aBr:=λ_ _=>by kernel_rfl
def aBs(p q:Aa):IT:=
 .cells 4 p λa=>.ld q λb=>.op (.By 1) [b] λc=>.call 158 [a4 a,c] λd=>.rr [d]
theorem oD:DO cx 236 aBs:=λ_ _=>by kernel_rfl
def aFv(p:Aa):IT:=
 .cells 4 p λa=>.iq [g a 1,I 1] λb=>.AH b (.rr [tt]) (.Be 238 [g a 2] λc=>.nt [c] λd=>.rr [d])
theorem nl:GP cx 237 aFv:=λ_=>by kernel_rfl
def aFw(p:Aa):IT:=
 .se [p,S aST] λa=>.AH a (.rr [tt]) (.se [p,S aS4] λb=>.AH b (.rr [tt]) (.se [p,S aTd] λc=>.AH c (.rr [tt]) (.se [p,S [116,100]] λd=>.AH d (.rr [tt]) (.se [p,S aTc] λe=>.AH e (.rr [tt]) (.se [p,S [116,104]] λf=>.AH f (.rr [tt]) (.se [p,S aTe] λh=>.AH h (.rr [tt]) (.se [p,S [116,114]] λj=>.AH j (.rr [tt]) (.Be 232 [p] λk=>.rr [k]))))))))
theorem np:GP cx 238 aFw:=λ_=>by kernel_rfl
def aBt(p q:Aa):IT:=
 .cells 3 p λa=>.fl q 0 λ_ b=>.ie [b,g a 0] λc=>.AH c (.fl q 1 λ_ d=>.se [d,g a 1] λe=>.rr [e]) (.rr [ff])
theorem oE:DO cx 239 aBt:=λ_ _=>by kernel_rfl
def aBu(p q:Aa):IT:=
 .cells 1 q λa=>.call 148 [p,.func (.func 242) [] [.CA [g a 0]]] λb=>.nt [b] λc=>.rr [c]
theorem oF:DO cx 241 aBu:=λ_ _=>by kernel_rfl
def aBv(p q:Aa):IT:=
 .cells 3 p λa=>.ld q λb=>.call 243 [b,a3 a] λc=>.nt [c] λd=>.rr [d]
theorem oG:DO cx 242 aBv:=λ_ _=>by kernel_rfl
def aBw(p q:Aa):IT:=
 .cells 3 q λa=>.call 287 [p,a3 a] λb=>.ih [b,I 0] λc=>.rr [c]
theorem oH:DO cx 243 aBw:=λ_ _=>by kernel_rfl
def nr(p q:Aa):IT:=
 .call 94 [p,q] λa=>.nt [a] λb=>.AH b (.rr [I 0]) (.call 43 [p,q] λc=>.fa c 0 λ_ d=>.fl d 1 λ_ e=>.rr [e])
theorem Y6:DO cx 244 nr:=λ_ _=>by kernel_rfl
def aBx(p q r:Aa):IT:=
 .ln [p] λa=>.mem (.eD 3) [p,q,r,a] λ_=>.ie [q,r] λb=>.AH b (.rr [p]) (.ln [p] λc=>.op (.Hs 3 false false true) [p,q] λd=>.op (.Hs 3 false true false) [p,r] λe=>.Ft 3 48 d e λf=>.ln [f] λh=>.mem (.pZ 3 true true) [f,h,c] λj=>.mem (.clear 3 [I 0,S [],.slnil]) [j] λ_=>.rr [f])
theorem oI:LW cx 245 aBx:=λ_ _ _=>by kernel_rfl
def aBy(p q:Aa):IT:=
 .cells 4 p λa=>.ld q λb=>.ie [g a 0,b] λc=>.rr [c]
theorem oJ:DO cx 246 aBy:=λ_ _=>by kernel_rfl
def nu(p q r:Aa):IT:=
 .cells 4 r λa=>.call 144 [p,q] λb=>.il [b,I 1] λc=>.AH c (.Hu 0 p (.rr [ff])) (.BV p 0 λ_ _ d=>.call 288 [d] λe=>.fa p 0 λ_ f=>.store 1 f e (.BV p 0 λ_ _ h=>.ea 4 [h,b] λj=>.store 4 j (a4 a) (.Hu 0 p (.rr [tt]))))
theorem Y7:LW cx 247 nu:=λ_ _ _=>by kernel_rfl
def nv(p q r:Aa):IT:=
 .cells 3 r λa=>.call 92 [p,q] λb=>.il [b,I 0] λc=>.AH c (.Hu 0 p (.rr [ff])) (.BV p 0 λ_ _ d=>.call 145 [d] λe=>.fa p 0 λ_ f=>.store 1 f e (.BV p 0 λ_ h j=>.call 169 [a3 a] λk=>.ld h λm=>.same j m (.ea 3 [j,b] λn=>.store 3 n k (.Hu 0 p (.rr [tt])))))
theorem Y8:LW cx 248 nv:=λ_ _ _=>by kernel_rfl
def aBz(p q:Aa):IT:=
 .op (.Hs 4 false false true) [p,q] λa=>.op (.append 4 40) [.slnil,a] λb=>.ia [q,I 1] λc=>.op (.Hs 4 false true false) [p,c] λd=>.op (.append 4 40) [b,d] λe=>.rr [e]
theorem oK:DO cx 249 aBz:=λ_ _=>by kernel_rfl
def Tr(p q r u:Aa):IT:=
 .Dg 200001 (.call 164 [p,q] λa=>.nt [a] λb=>.AH b (.rn [tt]) (.call 164 [p,r] λc=>.nt [c] λd=>.AH d (.rn [tt]) (.iq [u,I 0] λe=>.AH e (.call 164 [p,u] λf=>.nt [f] λh=>.rn [h]) (.rn [ff])))) (nx (λj=>.AH (g j 0) (.rr [I 3]) (.BV p 0 λ_ _ k=>.ea 13 [k,q] λm=>.fl m 0 λ_ n=>.BV p 0 λ_ _ o=>.ea 13 [o,r] λs=>.fl s 0 λ_ w=>.Dg 200004 (.iq [n,I 1] λy=>.AH y (.iq [n,I 2] λz=>.AH z (.iq [n,I 4] λa0=>.rn [a0]) (.rn [ff])) (.rn [ff])) (nx (λa1=>.AH (g a1 0) (.rr [I 4]) (.Dg 200006 (.ie [w,I 1] λa2=>.AH a2 (.rn [tt]) (.ie [w,I 2] λa5=>.AH a5 (.rn [tt]) (.call 297 [p,r,q] λa7=>.rn [a7]))) (nx (λa8=>.AH (g a8 0) (.rr [I 4]) (.Dg 200008 (.iq [u,I 0] λb0=>.AH b0 (.ie [u,r] λb1=>.AH b1 (.rn [tt]) (.BV p 0 λ_ _ b2=>.ea 13 [b2,u] λb3=>.fl b3 1 λ_ b4=>.iq [b4,q] λb5=>.rn [b5])) (.rn [ff])) (nx (λb6=>.AH (g b6 0) (.rr [I 5]) (.rr [I 0])) λb6=>.rr [I 0]))) λa8=>.rr [I 0]))) λa1=>.rr [I 0]))) λj=>.rr [I 0])
theorem Jd:df cx 257 Tr:=λ_ _ _ _=>by kernel_rfl
def aBA(p q:Aa):IT:=
 .call 164 [p,q] λa=>.nt [a] λb=>.AH b (.rr [I 3]) (.BV p 0 λ_ _ c=>.ea 13 [c,q] λd=>.fl d 1 λ_ e=>.iq [e,I 0] λf=>.AH f (.BV p 0 λ_ h j=>.BV p 0 λ_ _ k=>.ea 13 [k,e] λm=>.fl m 2 λ_ n=>.call 298 [n,q] λo=>.ld h λs=>.same j s (.ea 13 [j,e] λu=>.op (.D8 2) [u] λw=>.store 1 w o (.BV p 0 λ_ _ y=>.ea 13 [y,q] λz=>.op (.D8 1) [z] λa0=>.store 1 a0 i0 (.rr [I 0])))) (.rr [I 0]))
theorem oL:DO cx 258 aBA:=λ_ _=>by kernel_rfl
def aFx(p q:Aa):IT:=
 .loop 2 [ff,I 0] (λa=>.lt [p] λb=>.il [g a 1,b] λc=>.AH c (.op .Rv [p,g a 1] λd=>.ie [d,q] λe=>.AH e (.rr [tt,g a 1]) (.ia [g a 1,I 1] λf=>.rn [g a 0,f])) (.rx 0 [g a 0,g a 1])) (lx 0 (λh=>.rr [ff]) λh=>.rr [g h 0])
theorem ny:DO cx 259 aFx:=λ_ _=>by kernel_rfl
def aFy(p:Aa):IT:=
 .ih [p,.int .u8 65] λa=>.AH a (.ik [p,.int .u8 90] λb=>.rr [b]) (.rr [ff])
theorem nz:GP cx 260 aFy:=λ_=>by kernel_rfl
def aFz(p q:Aa):IT:=
 .ib [q,I 1] λa=>.loop 2 [I 0,a] (λb=>.ih [g b 1,I 0] λc=>.AH c (.BV p 2 λ_ _ d=>.ea 4 [d,g b 1] λe=>.load (some 4) e λf=>.op (.By 1) [S aSI] λh=>.call 214 [f,h] λj=>.AH j (.rr [I 16,g b 1]) (.BV p 2 λ_ _ k=>.ea 4 [k,g b 1] λm=>.load (some 4) m λn=>.op (.By 1) [S aSO] λo=>.call 214 [n,o] λs=>.AH s (.rr [I 17,g b 1]) (.ib [g b 1,I 1] λu=>.rn [g b 0,u]))) (.rx 0 [g b 0,g b 1])) (lx 0 (λw=>.rr [I 16]) λw=>.rr [g w 0])
theorem n_:DO cx 261 aFz:=λ_ _=>by kernel_rfl
def aFA(p q:Aa):IT:=
 .cells 13 p λa=>.cells 13 q λb=>.ie [g a 0,g b 0] λc=>.AH c (.ie [g a 4,g b 4] λd=>.AH d (.se [g a 5,g b 5] λe=>.AH e (.call 299 [g a 6,g b 6] λf=>.AH f (.se [g a 7,g b 7] λh=>.AH h (.se [g a 8,g b 8] λj=>.AH j (.se [g a 9,g b 9] λk=>.AH k (.op (.beq false) [g a 10,g b 10] λm=>.rr [m]) (.rr [ff])) (.rr [ff])) (.rr [ff])) (.rr [ff])) (.rr [ff])) (.rr [ff])) (.rr [ff])
theorem oa:DO cx 262 aFA:=λ_ _=>by kernel_rfl
def aFB(p:Aa):IT:=
 .loop 5 [I 0,I 1,.int .u8 0,I 0] (λa=>.lt [p] λb=>.il [g a 3,b] λc=>.AH c (.op .Rv [p,g a 3] λd=>.op (.int .or) [g a 2,d] λe=>.op (.Ub 256 1) [.CA JC,d] λf=>.ld f λh=>.op (.conv .i64) [h] λj=>.op (.un .xor) [j] λk=>.op (.int .and) [g a 1,k] λm=>.ia [g a 0,m] λn=>.ia [g a 3,I 1] λo=>.rn [n,j,e,o]) (.rx 0 [g a 0,g a 1,g a 2,g a 3])) (lx 0 (λs=>.ih [g s 2,.int .u8 128] λu=>.AH u (.call 300 [p,.func (.func 301) [] []] λw=>.KU w λy=>.rr [y]) (.make 1 16 [S []] (g s 0) (g s 0) λz=>.loop 18 [I 0] (λa0=>.lt [p] λa1=>.il [g a0 0,a1] λa2=>.AH a2 (.op .Rv [p,g a0 0] λa5=>.op (.Ub 256 1) [.CA JC,a5] λa7=>.ld a7 λa8=>.iq [a8,.int .u8 0] λb0=>.AH b0 (.ia [g a0 0,I 1] λb1=>.rn [b1]) (.rx 2 [g a0 0])) (.rx 2 [g a0 0])) (lx 2 (λb2=>.loop 21 [I 0,g b2 0,g b2 0] (λb3=>.lt [p] λb4=>.il [g b3 2,b4] λb5=>.AH b5 (.op .Rv [p,g b3 2] λb6=>.op (.Ub 256 1) [.CA JC,b6] λb7=>.ld b7 λb8=>.ie [b8,.int .u8 0] λb9=>.AH b9 (.ia [g b3 2,I 1] λc1=>.rn [g b3 0,g b3 1,c1]) (.op (.Hs 0 true true true) [p,g b3 1,g b3 2] λc2=>.ea 1 [z,g b3 0] λc3=>.store 1 c3 c2 (.ia [g b3 0,I 1] λc4=>.ia [g b3 2,I 1] λc5=>.loop 27 [c5] (λc6=>.lt [p] λc7=>.il [g c6 0,c7] λc8=>.AH c8 (.op .Rv [p,g c6 0] λc9=>.op (.Ub 256 1) [.CA JC,c9] λd0=>.ld d0 λd1=>.iq [d1,.int .u8 0] λd2=>.AH d2 (.ia [g c6 0,I 1] λd3=>.rn [d3]) (.rx 6 [g c6 0])) (.rx 6 [g c6 0])) (λx d4=>match x with| .normal=>.fail| .exit i=>if i=6 then .rn [c4,g d4 0,g d4 0] else if i=5 then .rn [c4,g b3 1,g d4 0] else .ret (.exit i) [c4,g b3 1,g d4 0]| .ret=>.rr [c4,g b3 1,g d4 0])))) (.rx 4 [g b3 0,g b3 1,g b3 2])) (lx 4 (λd5=>.lt [p] λd6=>.il [g d5 1,d6] λd7=>.AH d7 (.op (.Hs 0 true true false) [p,g d5 1] λd8=>.ea 1 [z,g d5 0] λd9=>.store 1 d9 d8 (.KU z λe0=>.rr [e0])) (.KU z λe1=>.rr [e1])) λd5=>.KU .slnil λe2=>.rr [e2])) λb2=>.KU .slnil λe3=>.rr [e3]))) λs=>.KU .slnil λe4=>.rr [e4])
theorem ob:GP cx 263 aFB:=λ_=>by kernel_rfl
def aBB(p q r:Aa):IT:=
 .ln [p] λa=>.mem (.eD 1) [p,q,r,a] λ_=>.ie [q,r] λb=>.AH b (.rr [p]) (.ln [p] λc=>.op (.Hs 1 false false true) [p,q] λd=>.op (.Hs 1 false true false) [p,r] λe=>.Ft 1 8 d e λf=>.ln [f] λh=>.mem (.pZ 1 true true) [f,h,c] λj=>.mem (.clear 1 [I 0]) [j] λ_=>.rr [f])
theorem oM:LW cx 265 aBB:=λ_ _ _=>by kernel_rfl
def aBC(p:Aa):IT:=
 .call 304 [.int .i32 65,.int .i32 90] λa=>.FH a [p] λb=>.rr [b]
theorem oN:GP cx 268 aBC:=λ_=>by kernel_rfl
def aFC(p:Aa):IT:=
 .BV p 2 λ_ _ a=>.BV p 2 λ_ b c=>.call 222 [a,S aSI] λd=>.ld b λe=>.same c e (.call 222 [c,S aSO] λf=>.Dg 200002 (.ih [d,I 0] λh=>.AH h (.ig [d,f] λj=>.rn [j]) (.rn [ff])) (nx (λk=>.AH (g k 0) (.BV p 2 λ_ _ m=>.ea 4 [m,d] λn=>.fl n 0 λ_ o=>.rr [.tuple [o,I 0]]) (.il [f,I 0] λs=>.AH s (.BV p 2 λ_ _ u=>.call 305 [u,I 0] λw=>.op (.part 0 none) [w] λy=>.rr [.tuple [y,I 0]]) (.BV p 2 λ_ _ z=>.ea 4 [z,f] λa0=>.fl a0 0 λ_ a1=>.BV p 0 λ_ _ a2=>.call 306 [a2,a1] λa5=>.iq [a5,I 0] λa7=>.AH a7 (.BV p 0 λ_ _ a8=>.call 306 [a8,a1] λb0=>.rr [.tuple [b0,a1]]) (.ie [f,I 0] λb1=>.AH b1 (.rr [.tuple [a1,I 0]]) (.BV p 2 λ_ _ b2=>.ib [f,I 1] λb3=>.ea 4 [b2,b3] λb4=>.fl b4 0 λ_ b5=>.rr [.tuple [b5,I 0]]))))) λk=>.rr [.tuple [I 0,I 0]]))
theorem od:GP cx 269 aFC:=λ_=>by kernel_rfl
def aFD(p q:Aa):IT:=
 .cells 3 p λa=>.cells 3 q λb=>.op (.str .neq) [g a 1,g b 1] λc=>.AH c (.rr [ff]) (.ln [g a 2] λd=>.ln [g b 2] λe=>.iq [d,e] λf=>.AH f (.rr [ff]) (.loop 4 [ff,I 0] (λh=>.ln [g a 2] λj=>.il [g h 1,j] λk=>.AH k (.ea 3 [g a 2,g h 1] λm=>.load (some 3) m λn=>.call 307 [g b 2,n] λo=>.nt [o] λs=>.AH s (.rr [ff,g h 1]) (.ea 3 [g b 2,g h 1] λu=>.load (some 3) u λw=>.call 307 [g a 2,w] λy=>.nt [y] λz=>.AH z (.rr [ff,g h 1]) (.ia [g h 1,I 1] λa0=>.rn [g h 0,a0]))) (.rx 0 [g h 0,g h 1])) (lx 0 (λa1=>.rr [tt]) λa1=>.rr [g a1 0])))
theorem oe:DO cx 270 aFD:=λ_ _=>by kernel_rfl
def aFE(p q:Aa):IT:=
 .loop 3 [.slnil,I 0] (λa=>.ln [p] λb=>.il [g a 1,b] λc=>.AH c (.iq [g a 1,q] λd=>.AH d (.ea 3 [p,g a 1] λe=>.load (some 3) e λf=>.op (.By 3) [f] λh=>.op (.append 3 48) [g a 0,h] λj=>.ia [g a 1,I 1] λk=>.rn [j,k]) (.ia [g a 1,I 1] λm=>.rn [g a 0,m])) (.rx 0 [g a 0,g a 1])) (lx 0 (λn=>.rr [g n 0]) λn=>.rr [.slnil])
theorem og:DO cx 271 aFE:=λ_ _=>by kernel_rfl
def aFF(p q r:Aa):IT:=
 .ia [q,I 1] λa=>.loop 2 [ff,a] (λb=>.ln [p] λc=>.il [g b 1,c] λd=>.AH d (.ea 4 [p,g b 1] λe=>.load (some 4) e λf=>.call 308 [f,r] λh=>.AH h (.rr [ff,g b 1]) (.ia [g b 1,I 1] λj=>.rn [g b 0,j])) (.rx 0 [g b 0,g b 1])) (lx 0 (λk=>.rr [tt]) λk=>.rr [g k 0])
theorem oh:LW cx 272 aFF:=λ_ _ _=>by kernel_rfl
def aFG(p:Aa):IT:=
 .Be 188 [S aSJ,p] λa=>.rr [a]
theorem oj:GP cx 273 aFG:=λ_=>by kernel_rfl
def aFH(p:Aa):IT:=
 .Be 188 [S aSJ,p] λa=>.AH a (.rr [tt]) (.Be 188 [S aSK,p] λb=>.rr [b])
theorem om:GP cx 274 aFH:=λ_=>by kernel_rfl
def aFI(p q:Aa):IT:=
 .loop 3 [I (-1),I 0] (λa=>.ln [p] λb=>.il [g a 1,b] λc=>.AH c (.ea 4 [p,g a 1] λd=>.fl d 0 λ_ e=>.ie [e,q] λf=>.AH f (.ia [g a 1,I 1] λh=>.rn [g a 1,h]) (.ia [g a 1,I 1] λj=>.rn [g a 0,j])) (.rx 0 [g a 0,g a 1])) (lx 0 (λk=>.rr [g k 0]) λk=>.rr [I 0])
theorem oo:DO cx 275 aFI:=λ_ _=>by kernel_rfl
def aFJ(p:Aa):IT:=
 .ln [p] λa=>.ib [a,I 1] λb=>.call 305 [p,b] λc=>.cells 4 c λd=>.rr [a4 d]
theorem oq:GP cx 276 aFJ:=λ_=>by kernel_rfl
def aFK(p q:Aa):IT:=
 .call 224 [p] λa=>.loop 3 [I (-1),a] (λb=>.ln [p] λc=>.il [g b 1,c] λd=>.AH d (.ea 3 [p,g b 1] λe=>.fl e 1 λ_ f=>.se [f,q] λh=>.AH h (.ia [g b 1,I 1] λj=>.rn [g b 1,j]) (.ia [g b 1,I 1] λk=>.rn [g b 0,k])) (.rx 0 [g b 0,g b 1])) (lx 0 (λm=>.rr [g m 0]) λm=>.rr [I 0])
theorem ot:DO cx 277 aFK:=λ_ _=>by kernel_rfl
def aBD(p q:Aa):IT:=
 .BV p 3 λ_ _ a=>.call 218 [a,q] λb=>.ih [b,I 0] λc=>.AH c (.BV p 3 λ_ _ d=>.call 271 [d,b] λe=>.fa p 3 λ_ f=>.store 1 f e (.rr [.tuple []])) (.rr [.tuple []])
theorem oO:DO cx 278 aBD:=λ_ _=>by kernel_rfl
def aFL(p q r:Aa):IT:=
 .call 275 [p,r] λa=>.ih [a,I 0] λb=>.AH b (.call 272 [p,a,q] λc=>.rr [c]) (.rr [ff])
theorem ou:LW cx 279 aFL:=λ_ _ _=>by kernel_rfl
def aFM(p q:Aa):IT:=
 .call 275 [p,q] λa=>.il [a,I 0] λb=>.AH b (.rr [I (-1)]) (.ia [a,I 1] λc=>.loop 5 [I 0,c] (λd=>.ln [p] λe=>.il [g d 1,e] λf=>.AH f (.ea 4 [p,g d 1] λh=>.fl h 1 λ_ j=>.ea 4 [p,g d 1] λk=>.fl k 2 λ_ m=>.Be 216 [j,m] λn=>.AH n (.rr [g d 1,g d 1]) (.ia [g d 1,I 1] λo=>.rn [g d 0,o])) (.rx 0 [g d 0,g d 1])) (lx 0 (λs=>.rr [I (-1)]) λs=>.rr [g s 0]))
theorem ov:DO cx 280 aFM:=λ_ _=>by kernel_rfl
def aFN(p q r u w:Aa):IT:=
 .BV p 2 λ_ _ a=>.ea 4 [a,u] λb=>.fl b 0 λ_ c=>.ib [u,I 1] λd=>.loop 4 [c,q,d] (λe=>.ig [g e 2,r] λf=>.AH f (.BV p 2 λ_ _ h=>.ea 4 [h,g e 2] λj=>.load (some 4) j λk=>.cells 4 k λm=>.BV p 3 λ_ _ n=>.call 218 [n,g m 0] λo=>.Dg 200008 (.ib [u,g e 2] λs=>.ig [s,I 3] λy=>.AH y (.ih [o,I 0] λz=>.rn [z]) (.rn [ff])) (λx a0=>match x with| .normal=>.Dg 100058 (.AH (g a0 0) (.BV p 3 λ_ _ a1=>.call 271 [a1,o] λa2=>.fa p 3 λ_ a5=>.store 1 a5 a2 (.il [o,g e 1] λa7=>.Dg 100070 (.AH a7 (.ib [g e 1,I 1] λa8=>.rn [a8]) (.rn [g e 1])) (λx b0=>match x with| .normal=>.rn [g b0 0,I (-1)]| .exit i=>.ret (.exit i) [g b0 0,o]| .ret=>.rr [g b0 0,o]))) (.rn [g e 1,o])) (λx b1=>match x with| .normal=>.il [g b1 1,I 0] λb2=>.AH b2 (.BV p 2 λ_ _ b3=>.op (.Hs 4 false false true) [b3,g e 2] λb4=>.op (.append 4 40) [.slnil,b4] λb5=>.BV p 2 λ_ _ b6=>.ia [g e 2,I 1] λb7=>.op (.Hs 4 false true false) [b6,b7] λb8=>.op (.append 4 40) [b5,b8] λb9=>.fa p 2 λ_ c0=>.store 1 c0 b9 (.ib [g e 2,I 1] λc1=>.rn [g e 0,g b1 0,c1])) (.BV p 3 λ_ _ c2=>.ea 3 [c2,g b1 1] λc3=>.load (some 3) c3 λc4=>.cells 3 c4 λc5=>.op (.Br [I 0,S [],ff,S [],ff,S [],ff,ff,.slnil,ff,S [],.int .i32 0] [(0,1),(1,1),(8,1)]) [I 2,g c5 1,g c5 2] λc6=>.call 140 [p,c6,I 1,w] λc8=>.cells 4 c8 λc9=>.BV p 2 λ_ _ d0=>.op (.Hs 4 false false true) [d0,g e 2] λd1=>.op (.append 4 40) [.slnil,d1] λd2=>.op (.By 4) [a4 c9] λd3=>.op (.append 4 40) [d2,d3] λd4=>.BV p 2 λ_ _ d5=>.ia [g e 2,I 1] λd6=>.op (.Hs 4 false true false) [d5,d6] λd7=>.op (.append 4 40) [d4,d7] λd8=>.fa p 2 λ_ d9=>.store 1 d9 d8 (.cells 1 (g c9 0) λe0=>.BV p 3 λ_ _ e1=>.call 271 [e1,g b1 1] λe2=>.call 136 [e2,.agg [g e0 0,g c5 1,g c5 2],g b1 1] λe3=>.fa p 3 λ_ e4=>.store 1 e4 e3 (.ie [g e 0,c] λe5=>.Dg 100146 (.AH e5 (.ia [g b1 1,I 1] λe6=>.rn [e6]) (.rn [g b1 0])) (λx e7=>match x with| .normal=>.BV p 0 λ_ _ e8=>.call 187 [e8,g c9 0,g e 0,I 0] λ_=>.ib [g e 2,I 1] λe9=>.rn [g c9 0,g e7 0,e9]| .exit i=>if i=1 then .ib [g e 2,I 1] λf0=>.rn [g e 0,g e7 0,f0] else .ret (.exit i) [g e 0,g e7 0,g e 2]| .ret=>.rr [g e 0,g e7 0,g e 2]))))| .exit i=>if i=1 then .ib [g e 2,I 1] λf1=>.rn [g e 0,g b1 0,f1] else .ret (.exit i) [g e 0,g b1 0,g e 2]| .ret=>.rr [g e 0,g b1 0,g e 2])| .exit i=>if i=1 then .ib [g e 2,I 1] λf2=>.rn [g e 0,g e 1,f2] else .ret (.exit i) [g e 0,g e 1,g e 2]| .ret=>.rr [g e 0,g e 1,g e 2])) (.rx 0 [g e 0,g e 1,g e 2])) (lx 0 (λf3=>.rr [.tuple [g f3 0,g f3 1]]) λf3=>.rr [.tuple [I 0,I 0]])
theorem oz:Tq5 cx 281 aFN:=λ_ _ _ _ _=>by kernel_rfl
def o_(p q:Aa):IT:=
 .call 275 [p,q] λa=>.il [a,I 1] λb=>.AH b (.ln [p] λc=>.call 225 [p,c] λd=>.KU d λe=>.KU ff λf=>.rr [.tuple [e,f]]) (.ia [a,I 1] λh=>.op (.Hs 4 false true false) [p,h] λj=>.call 225 [p,a] λk=>.Ft 4 40 k j λm=>.KU m λn=>.KU tt λo=>.rr [.tuple [n,o]])
theorem Y9:DO cx 282 o_:=λ_ _=>by kernel_rfl
def aFO(p q r:Aa):IT:=
 .cells 4 q λa=>.il [r,I 1] λb=>.AH b (.ln [p] λc=>.ig [I 1,c] λd=>.AH d (.ln [p] λe=>.op (.Hs 4 false false true) [p,e] λf=>.op (.append 4 40) [.slnil,f] λh=>.op (.By 4) [a4 a] λj=>.op (.append 4 40) [h,j] λk=>.op (.Hs 4 false true false) [p,e] λm=>.op (.append 4 40) [k,m] λn=>.rr [n]) (.op (.Hs 4 false false true) [p,I 1] λo=>.op (.append 4 40) [.slnil,o] λs=>.op (.By 4) [a4 a] λu=>.op (.append 4 40) [s,u] λw=>.op (.Hs 4 false true false) [p,I 1] λy=>.op (.append 4 40) [w,y] λz=>.rr [z])) (.ln [p] λa0=>.ig [r,a0] λa1=>.AH a1 (.ln [p] λa2=>.op (.Hs 4 false false true) [p,a2] λa5=>.op (.append 4 40) [.slnil,a5] λa7=>.op (.By 4) [a4 a] λa8=>.op (.append 4 40) [a7,a8] λb0=>.op (.Hs 4 false true false) [p,a2] λb1=>.op (.append 4 40) [b0,b1] λb2=>.rr [b2]) (.op (.Hs 4 false false true) [p,r] λb3=>.op (.append 4 40) [.slnil,b3] λb4=>.op (.By 4) [a4 a] λb5=>.op (.append 4 40) [b4,b5] λb6=>.op (.Hs 4 false true false) [p,r] λb7=>.op (.append 4 40) [b6,b7] λb8=>.rr [b8]))
theorem pc:LW cx 283 aFO:=λ_ _ _=>by kernel_rfl
def aFP(p q:Aa):IT:=
 .loop 3 [S [],I 0,I 0] (λa=>.lt [p] λb=>.ik [g a 2,b] λc=>.AH c (.lt [p] λd=>.ie [g a 2,d] λe=>.AH e (.op (.Hs 0 true true true) [p,g a 1,g a 2] λf=>.Be 189 [f] λh=>.se [h,q] λj=>.AH j (.op (.Hs 0 true true true) [p,g a 1,g a 2] λk=>.rr [k,g a 1,g a 2]) (.ia [g a 2,I 1] λm=>.ia [g a 2,I 1] λn=>.rn [g a 0,m,n])) (.op .Rv [p,g a 2] λo=>.ie [o,.int .u8 32] λs=>.AH s (.op (.Hs 0 true true true) [p,g a 1,g a 2] λu=>.Be 189 [u] λw=>.se [w,q] λy=>.AH y (.op (.Hs 0 true true true) [p,g a 1,g a 2] λz=>.rr [z,g a 1,g a 2]) (.ia [g a 2,I 1] λa0=>.ia [g a 2,I 1] λa1=>.rn [g a 0,a0,a1])) (.ia [g a 2,I 1] λa2=>.rn [g a 0,g a 1,a2]))) (.rx 0 [g a 0,g a 1,g a 2])) (lx 0 (λa5=>.rr [q]) λa5=>.rr [g a5 0])
theorem pd:DO cx 284 aFP:=λ_ _=>by kernel_rfl
def zM(p:Aa):IT:=
 .cells 1 p λa=>.ie [g a 0,I 4] λb=>.AH b (.rr [.func (.func 309) [] []]) (.ie [g a 0,I 5] λc=>.AH c (.rr [.func (.func 310) [] []]) (.rr [.func (.func 311) [] [.CA [g a 0]]]))
theorem T5:GP cx 285 zM:=λ_=>by kernel_rfl
def aBE(p q r:Aa):IT:=
 .cells 4 p λa=>.ld q λb=>.FH b [a4 a] λc=>.AH c (.rr [tt]) (.ld r λd=>.FH d [a4 a] λe=>.rr [e])
theorem oP:LW cx 286 aBE:=λ_ _ _=>by kernel_rfl
def aBF(p q:Aa):IT:=
 .cells 3 q λa=>.ln [p] λb=>.loop 2 [I 0,I 0] (λc=>.il [g c 1,b] λd=>.AH d (.ea 3 [p,g c 1] λe=>.load (some 3) e λf=>.op (.geq false [.i,.s,.s]) [a3 a,f] λh=>.AH h (.rr [g c 1,g c 1]) (.ia [g c 1,I 1] λj=>.rn [g c 0,j])) (.rx 0 [g c 0,g c 1])) (lx 0 (λk=>.rr [I (-1)]) λk=>.rr [g k 0])
theorem oQ:DO cx 287 aBF:=λ_ _=>by kernel_rfl
def aBG(p:Aa):IT:=
 .op (.GL false .sl) [p,.slnil] λa=>.AH a (.rr [.slnil]) (.op (.By 4) [] λb=>.Ht 4 40 b p λc=>.rr [c])
theorem oR:GP cx 288 aBG:=λ_=>by kernel_rfl
def aFQ(p q r:Aa):IT:=
 .call 164 [p,q] λa=>.nt [a] λb=>.AH b (.rr [ff]) (.call 164 [p,r] λc=>.nt [c] λd=>.AH d (.rr [ff]) (.loop 3 [r,ff] (λe=>.iq [g e 0,I 0] λf=>.AH f (.ie [g e 0,q] λh=>.AH h (.rr [g e 0,tt]) (.call 166 [p,g e 0] λj=>.rn [j,g e 1])) (.rx 0 [g e 0,g e 1])) (lx 0 (λk=>.rr [ff]) λk=>.rr [g k 1])))
theorem pg:LW cx 297 aFQ:=λ_ _ _=>by kernel_rfl
def aFR(p q:Aa):IT:=
 .loop 3 [.slnil,I 0] (λa=>.ln [p] λb=>.il [g a 1,b] λc=>.AH c (.ea 1 [p,g a 1] λd=>.ld d λe=>.iq [e,q] λf=>.AH f (.ea 1 [p,g a 1] λh=>.ld h λj=>.op (.By 1) [j] λk=>.op (.append 1 8) [g a 0,k] λm=>.ia [g a 1,I 1] λn=>.rn [m,n]) (.ia [g a 1,I 1] λo=>.rn [g a 0,o])) (.rx 0 [g a 0,g a 1])) (lx 0 (λs=>.rr [g s 0]) λs=>.rr [.slnil])
theorem ph:DO cx 298 aFR:=λ_ _=>by kernel_rfl
def aFS(p q:Aa):IT:=
 .ln [p] λa=>.ln [q] λb=>.iq [a,b] λc=>.AH c (.rr [ff]) (.loop 4 [ff,I 0] (λd=>.ln [p] λe=>.il [g d 1,e] λf=>.AH f (.ea 3 [p,g d 1] λh=>.load (some 3) h λj=>.ea 3 [q,g d 1] λk=>.load (some 3) k λm=>.op (.geq true [.i,.s,.s]) [j,m] λn=>.AH n (.rr [ff,g d 1]) (.ia [g d 1,I 1] λo=>.rn [g d 0,o])) (.rx 0 [g d 0,g d 1])) (lx 0 (λs=>.rr [tt]) λs=>.rr [g s 0]))
theorem pj:DO cx 299 aFS:=λ_ _=>by kernel_rfl
def aFT(p q:Aa):IT:=
 .make 2 16 [I 0,I 0] i0 (I 32) λ_=>.fail
theorem pk:DO cx 300 aFT:=λ_ _=>by kernel_rfl
def aBH(p q:Aa):IT:=
 .cells 1 p λa=>.cells 1 q λb=>.rr [.func (.func 318) [] [.CA [g a 0],.CA [g b 0]]]
theorem oS:DO cx 304 aBH:=λ_ _=>by kernel_rfl
def aFU(p q:Aa):IT:=
 .il [q,I 0] λa=>.AH a (.op (.Br [I 0,I 0,S [],ff] []) [] λb=>.cells 4 b λc=>.rr [a4 c]) (.ln [p] λd=>.ih [q,d] λe=>.AH e (.op (.Br [I 0,I 0,S [],ff] []) [] λf=>.cells 4 f λh=>.rr [a4 h]) (.ea 4 [p,q] λj=>.load (some 4) j λk=>.cells 4 k λm=>.rr [a4 m]))
theorem po:DO cx 305 aFU:=λ_ _=>by kernel_rfl
def aFV(p q:Aa):IT:=
 .call 164 [p,q] λa=>.nt [a] λb=>.AH b (.rr [I 0]) (.BV p 0 λ_ _ c=>.ea 13 [c,q] λd=>.fl d 1 λ_ e=>.rr [e])
theorem pq:DO cx 306 aFV:=λ_ _=>by kernel_rfl
def aFW(p q:Aa):IT:=
 .cells 3 q λa=>.loop 2 [ff,I 0] (λb=>.ln [p] λc=>.il [g b 1,c] λd=>.AH d (.ea 3 [p,g b 1] λe=>.load (some 3) e λf=>.op (.geq false [.i,.s,.s]) [f,a3 a] λh=>.AH h (.rr [tt,g b 1]) (.ia [g b 1,I 1] λj=>.rn [g b 0,j])) (.rx 0 [g b 0,g b 1])) (lx 0 (λk=>.rr [ff]) λk=>.rr [g k 0])
theorem pv:DO cx 307 aFW:=λ_ _=>by kernel_rfl
def aFX(p q:Aa):IT:=
 .cells 4 p λa=>.ie [g a 1,I 1] λb=>.ie [q,I 4] λc=>.AH c (.AH b (.Be 188 [S aSU,g a 2] λd=>.rr [d]) (.rr [ff])) (.ie [q,I 5] λe=>.AH e (.nt [b] λf=>.AH f (.rr [tt]) (.Be 188 [S aSZ,g a 2] λh=>.nt [h] λj=>.rr [j])) (.AH b (.ie [q,I 2] λk=>.AH k (.Be 188 [S aTt,g a 2] λm=>.AH m (.rr [tt]) (.AH b (.ie [q,I 3] λn=>.AH n (.se [g a 2,S aSP] λo=>.AH o (.rr [tt]) (.AH b (.Be 188 [S aSG,g a 2] λs=>.rr [s]) (.Be 216 [g a 1,g a 2] λu=>.rr [u]))) (.AH b (.Be 188 [S aSG,g a 2] λw=>.rr [w]) (.Be 216 [g a 1,g a 2] λy=>.rr [y]))) (.AH b (.Be 188 [S aSG,g a 2] λz=>.rr [z]) (.Be 216 [g a 1,g a 2] λa0=>.rr [a0])))) (.AH b (.ie [q,I 3] λa1=>.AH a1 (.se [g a 2,S aSP] λa2=>.AH a2 (.rr [tt]) (.AH b (.Be 188 [S aSG,g a 2] λa5=>.rr [a5]) (.Be 216 [g a 1,g a 2] λa7=>.rr [a7]))) (.AH b (.Be 188 [S aSG,g a 2] λa8=>.rr [a8]) (.Be 216 [g a 1,g a 2] λb0=>.rr [b0]))) (.AH b (.Be 188 [S aSG,g a 2] λb1=>.rr [b1]) (.Be 216 [g a 1,g a 2] λb2=>.rr [b2])))) (.AH b (.ie [q,I 3] λb3=>.AH b3 (.se [g a 2,S aSP] λb4=>.AH b4 (.rr [tt]) (.AH b (.Be 188 [S aSG,g a 2] λb5=>.rr [b5]) (.Be 216 [g a 1,g a 2] λb6=>.rr [b6]))) (.AH b (.Be 188 [S aSG,g a 2] λb7=>.rr [b7]) (.Be 216 [g a 1,g a 2] λb8=>.rr [b8]))) (.AH b (.Be 188 [S aSG,g a 2] λb9=>.rr [b9]) (.Be 216 [g a 1,g a 2] λc1=>.rr [c1])))))
theorem px:DO cx 308 aFX:=λ_ _=>by kernel_rfl
def aBI(p:Aa):IT:=
 .cells 4 p λa=>.op (.By 1) [S aSR,S aSO,S aSI] λb=>.call 158 [a4 a,b] λc=>.rr [c]
theorem oT:GP cx 309 aBI:=λ_=>by kernel_rfl
def aBJ(p:Aa):IT:=
 .cells 4 p λa=>.op (.By 1) [S aS3,S aTg] λb=>.call 158 [a4 a,b] λc=>.nt [c] λd=>.rr [d]
theorem oU:GP cx 310 aBJ:=λ_=>by kernel_rfl
def aBK(p q:Aa):IT:=
 .cells 4 p λa=>.ie [g a 1,I 3] λb=>.AH b (.Be 117 [g a 1,g a 2] λc=>.rr [c]) (.ie [g a 1,I 2] λd=>.AH d (.Be 117 [g a 1,g a 2] λe=>.rr [e]) (.op (.By 1) [S aTp,S aST,S aSR,S aTm,S aTq,S aSO,S [116,100],S aSI,S [116,104]] λf=>.call 158 [a4 a,f] λh=>.AH h (.rr [tt]) (.ld q λj=>.ie [j,I 2] λk=>.AH k (.op (.By 1) [S [111,108],S [117,108]] λm=>.call 158 [a4 a,m] λn=>.AH n (.rr [tt]) (.ld q λo=>.ie [o,I 3] λs=>.AH s (.op (.By 1) [S aSP] λu=>.call 158 [a4 a,u] λw=>.rr [w]) (.rr [ff]))) (.ld q λy=>.ie [y,I 3] λz=>.AH z (.op (.By 1) [S aSP] λa0=>.call 158 [a4 a,a0] λa1=>.rr [a1]) (.rr [ff])))))
theorem oV:DO cx 311 aBK:=λ_ _=>by kernel_rfl
def aBL(p q r:Aa):IT:=
 .ld q λa=>.ik [a,p] λb=>.AH b (.ld r λc=>.ik [p,c] λd=>.rr [d]) (.rr [ff])
theorem oW:LW cx 318 aBL:=λ_ _ _=>by kernel_rfl
def py(p:Aa):IT:=
 .call 52 [p] λa=>.nt [a] λb=>.AH b (.op (.Br [I 0,I 0,.slnil,.slnil,.slnil,I 0,I 0,ff,ff,S [],ff,I 0,ff] []) [] λc=>.cells 13 c λd=>.rr [RS d]) (.BV p 4 λ_ e f=>.BV p 5 λ_ h j=>.BV p 6 λ_ _ k=>.BV p 7 λ_ m n=>.BV p 8 λ_ o s=>.BV p 14 λ_ u w=>.BV p 15 λ_ y z=>.BV p 16 λ_ a0 a1=>.BV p 17 λ_ a2 a5=>.BV p 18 λ_ a7 a8=>.BV p 19 λ_ b0 b1=>.call 100053 [k] λb2=>.ld b0 λb3=>.same b1 b3 (.ld a7 λb4=>.same a8 b4 (.ld a2 λb5=>.same a5 b5 (.ld a0 λb6=>.same a1 b6 (.ld y λb7=>.same z b7 (.ld u λb8=>.same w b8 (.ld o λb9=>.same s b9 (.ld m λc0=>.same n c0 (.ld h λc1=>.same j c1 (.ld e λc2=>.same f c2 (.op (.Br [I 0,I 0,.slnil,.slnil,.slnil,I 0,I 0,ff,ff,S [],ff,I 0,ff] [(0,1),(1,1),(2,1),(5,1),(6,1),(7,1),(8,1),(9,1),(10,1),(11,1),(12,1)]) [f,j,b2,n,s,w,z,a1,a5,a8,b1] λc4=>.cells 13 c4 λc5=>.fa p 2 λ_ c6=>.fl c6 0 λ_ c7=>.ln [c7] λc8=>.loop 5 [RS c5,I 0] (λc9=>.cells 13 (g c9 0) λd0=>.il [g c9 1,c8] λd1=>.AH d1 (.ea 4 [c7,g c9 1] λd2=>.load (some 4) d2 λd3=>.cells 4 d3 λd4=>.op (.By 1) [g d4 0] λd5=>.Ft 1 8 (g d0 3) d5 λd6=>.cells 1 d6 λd7=>.ia [g c9 1,I 1] λd8=>.rn [.agg [g d0 0,g d0 1,g d0 2,g d7 0,g d0 4,g d0 5,g d0 6,g d0 7,g d0 8,g d0 9,g d0 10,g d0 11,g d0 12],d8]) (.rx 0 [RS d0,g c9 1])) (λx d9=>.cells 13 (g d9 0) λe0=>match x with| .normal=>.fail| .exit i=>if i=0 then .fa p 3 λ_ e1=>.fl e1 0 λ_ e2=>.ln [e2] λe3=>.make 3 48 [I 0,S [],.slnil] e3 e3 λe4=>.cells 1 e4 λe5=>.fa p 3 λ_ e6=>.fl e6 0 λ_ e7=>.mem (.copy 3) [g e5 0,e7] λ_=>.ln [g e5 0] λe8=>.loop 12 [I 0] (λe9=>.il [g e9 0,e8] λf0=>.AH f0 (.ea 3 [g e5 0,g e9 0] λf1=>.fl f1 2 λ_ f2=>.call 100054 [f2] λf3=>.ea 3 [g e5 0,g e9 0] λf4=>.op (.D8 2) [f4] λf5=>.store 1 f5 f3 (.ia [g e9 0,I 1] λf6=>.rn [f6])) (.rx 2 [g e9 0])) (lx 2 (λf7=>.cells 13 (.agg [g e0 0,g e0 1,g e0 2,g e0 3,g e5 0,g e0 5,g e0 6,g e0 7,g e0 8,g e0 9,g e0 10,g e0 11,g e0 12]) λf8=>.rr [RS f8]) λf7=>.rr [.agg [I 0,I 0,.slnil,.slnil,.slnil,I 0,I 0,ff,ff,S [],ff,I 0,ff]]) else .fail| .ret=>.rr [.agg [I 0,I 0,.slnil,.slnil,.slnil,I 0,I 0,ff,ff,S [],ff,I 0,ff]]))))))))))))
theorem aBM:GP cx 100017 py:=λ_=>by kernel_rfl
def pz(p:Aa):IT:=
 .op (.GL false .sl) [p,.slnil] λa=>.AH a (.rr [.slnil]) (.op (.By 1) [] λb=>.Ht 1 8 b p λc=>.rr [c])
theorem aBN:GP cx 100053 pz:=λ_=>by kernel_rfl
def T6(p:Aa):IT:=
 .op (.GL false .sl) [p,.slnil] λa=>.AH a (.rr [.slnil]) (.op (.By 3) [] λb=>.Ht 3 40 b p λc=>.rr [c])
theorem Qd:GP cx 100054 T6:=λ_=>by kernel_rfl
end Go.Am
