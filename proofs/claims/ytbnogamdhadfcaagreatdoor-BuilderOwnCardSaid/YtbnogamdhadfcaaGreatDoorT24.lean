/- Lemmas -/
import Derived.Test.YtbnogamdhadfcaaGreatDoorT10
import Derived.Test.YtbnogamdhadfcaaGreatDoorT18
set_option linter.unusedVariables false
set_option linter.unusedSimpArgs false
namespace Go.Am
open Go
def aFg(p q r:Aa):IT:=
 .call 164 [p,q] λa=>.nt [a] λb=>.AJ b (.rr [I 3]) (.BW p 0 λ_ _ c=>.ea 13 [c,q] λd=>.fl d 0 λ_ e=>.iq [e,I 4] λf=>.AJ f (.rr [I 9]) (.call 79 [r] λh=>.nt [h] λj=>.AJ j (.rr [I 2]) (.BW p 0 λ_ k m=>.call 80 [r] λn=>.ld k λo=>.same m o (.ea 13 [m,q] λs=>.op (.Ec 6) [s] λu=>.store 1 u n (.rr [I 0])))))
theorem ng:LU cx 221 aFg:=λ_ _ _=>by kernel_rfl
def aFh(p q:Aa):IT:=
 .loop 3 [I (-1),I 0] (λa=>.ln [p] λb=>.il [g a 1,b] λc=>.AJ c (.ea 4 [p,g a 1] λd=>.load (some 4) d λe=>.op (.By 1) [q] λf=>.call 214 [e,f] λh=>.AJ h (.ia [g a 1,I 1] λj=>.rn [g a 1,j]) (.ia [g a 1,I 1] λk=>.rn [g a 0,k])) (.rx 0 [g a 0,g a 1])) (lx 0 (λm=>.rr [g m 0]) λm=>.rr [I 0])
theorem nh:DU cx 222 aFh:=λ_ _=>by kernel_rfl
def aFi(p:Aa):IT:=
 .cells 3 p λa=>.op (.append 3 40) [.slnil,g a 2] λb=>.cells 1 b λc=>.cells 3 (.agg [g a 0,g a 1,g c 0]) λd=>.rr [a3 d]
theorem ni:GQ cx 223 aFi:=λ_=>by kernel_rfl
def aFj(p:Aa):IT:=
 .loop 3 [I 0,I 0] (λa=>.ln [p] λb=>.il [g a 1,b] λc=>.AJ c (.ea 3 [p,g a 1] λd=>.fl d 0 λ_ e=>.ie [e,I 0] λf=>.AJ f (.ia [g a 1,I 1] λh=>.ia [g a 1,I 1] λj=>.rn [h,j]) (.ia [g a 1,I 1] λk=>.rn [g a 0,k])) (.rx 0 [g a 0,g a 1])) (lx 0 (λm=>.rr [g m 0]) λm=>.rr [I 0])
theorem nj:GQ cx 224 aFj:=λ_=>by kernel_rfl
def aFk(p q:Aa):IT:=
 .il [q,I 1] λa=>.AJ a (.ln [p] λb=>.ig [I 1,b] λc=>.AJ c (.ln [p] λd=>.op (.Hv 4 false false true) [p,d] λe=>.Hw 4 40 .slnil e λf=>.rr [f]) (.op (.Hv 4 false false true) [p,I 1] λh=>.Hw 4 40 .slnil h λj=>.rr [j])) (.ln [p] λk=>.ig [q,k] λm=>.AJ m (.ln [p] λn=>.op (.Hv 4 false false true) [p,n] λo=>.Hw 4 40 .slnil o λs=>.rr [s]) (.op (.Hv 4 false false true) [p,q] λu=>.Hw 4 40 .slnil u λw=>.rr [w]))
theorem nl:DU cx 225 aFk:=λ_ _=>by kernel_rfl
def aFl(p q:Aa):IT:=
 .loop 3 [.slnil,I 0] (λa=>.ln [q] λb=>.il [g a 1,b] λc=>.AJ c (.ea 3 [q,g a 1] λd=>.fl d 1 λ_ e=>.ea 3 [q,g a 1] λf=>.fl f 2 λ_ h=>.op (.Bs [I 0,S [],S []] [(1,1),(2,1)]) [e,h] λj=>.cells 3 j λk=>.Di 200006 (.ie [p,I 3] λm=>.AJ m (.se [g k 1,S aS3] λn=>.rn [n]) (.rn [ff])) (λx o=>match x with| .normal=>.Di 100031 (.AJ (g o 0) (.cells 1 (S aS5) λs=>.rn [.agg [g k 0,g s 0,g k 2]]) (.rn [a3 k])) (λx u=>.cells 3 (g u 0) λw=>match x with| .normal=>.ie [p,I 2] λy=>.Di 100034 (.AJ y (.Bk 284 [S aSx,g w 1] λz=>.cells 1 z λa0=>.rn [.agg [g w 0,g a0 0,g w 2]]) (.rn [a3 w])) (λx a1=>.cells 3 (g a1 0) λa2=>match x with| .normal=>.Di 200010 (.ie [p,I 3] λa5=>.AJ a5 (.rn [tt]) (.ie [p,I 2] λa7=>.rn [a7])) (λx a8=>match x with| .normal=>.Di 100044 (.AJ (g a8 0) (.Bk 188 [S aSB,g a2 1] λb0=>.Di 100045 (.AJ b0 (.op (.Hv 0 true true false) [g a2 1,I 6] λb1=>.cells 1 (I 4) λb2=>.cells 1 b1 λb3=>.rn [.agg [g b2 0,g b3 0,g a2 2]]) (.Di 200013 (.se [g a2 1,S aS4] λb4=>.AJ b4 (.rn [tt]) (.se [g a2 1,S aSV] λb5=>.rn [b5])) (λx b6=>match x with| .normal=>.Di 100054 (.AJ (g b6 0) (.op (.Hv 0 true true false) [g a2 1,I 4] λb7=>.cells 1 (I 5) λb8=>.cells 1 b7 λb9=>.rn [.agg [g b8 0,g b9 0,g a2 2]]) (.se [g a2 1,S aSW] λc1=>.Di 100068 (.AJ c1 (.cells 1 (I 6) λc2=>.rn [.agg [g c2 0,g a2 1,g a2 2]]) (.se [g a2 1,S aSM] λc3=>.Di 100073 (.AJ c3 (.cells 1 (I 6) λc4=>.cells 1 (S aTc) λc5=>.rn [.agg [g c4 0,g c5 0,g a2 2]]) (.rn [a3 a2])) (λx c6=>.cells 3 (g c6 0) λc7=>.ret x [a3 c7]))) (λx c8=>.cells 3 (g c8 0) λc9=>.ret x [a3 c9]))) (λx d0=>.cells 3 (g d0 0) λd1=>.ret x [a3 d1])| .exit i=>.ret (.exit i) [a3 a2]| .ret=>.rr [a3 a2]))) (λx d2=>.cells 3 (g d2 0) λd3=>match x with| .normal=>.rn [a3 d3]| .exit i=>if i=2 then .rn [a3 d3] else .ret (.exit i) [a3 d3]| .ret=>.rr [a3 d3])) (.rn [a3 a2])) (λx d4=>.cells 3 (g d4 0) λd5=>match x with| .normal=>.op (.By 3) [a3 d5] λd6=>.op (.append 3 40) [g a 0,d6] λd7=>.ia [g a 1,I 1] λd8=>.rn [d7,d8]| .exit i=>if i=1 then .ia [g a 1,I 1] λd9=>.rn [g a 0,d9] else .ret (.exit i) [g a 0,g a 1]| .ret=>.rr [g a 0,g a 1])| .exit i=>if i=1 then .ia [g a 1,I 1] λe0=>.rn [g a 0,e0] else .ret (.exit i) [g a 0,g a 1]| .ret=>.rr [g a 0,g a 1])| .exit i=>if i=1 then .ia [g a 1,I 1] λe1=>.rn [g a 0,e1] else .ret (.exit i) [g a 0,g a 1]| .ret=>.rr [g a 0,g a 1])| .exit i=>if i=1 then .ia [g a 1,I 1] λe2=>.rn [g a 0,e2] else .ret (.exit i) [g a 0,g a 1]| .ret=>.rr [g a 0,g a 1])| .exit i=>if i=1 then .ia [g a 1,I 1] λe3=>.rn [g a 0,e3] else .ret (.exit i) [g a 0,g a 1]| .ret=>.rr [g a 0,g a 1])) (.rx 0 [g a 0,g a 1])) (lx 0 (λe4=>.rr [g e4 0]) λe4=>.rr [.slnil])
theorem np:DU cx 226 aFl:=λ_ _=>by kernel_rfl
def aFm(p:Aa):IT:=
 .Bk 284 [S aSz,p] λa=>.rr [a]
theorem nr:GQ cx 227 aFm:=λ_=>by kernel_rfl
def aFn(p q r:Aa):IT:=
 .call 185 [p,q] λa=>.ie [a,I 4] λb=>.AJ b (.BW p 0 λ_ _ c=>.BW c 0 λ_ _ d=>.ea 13 [d,q] λe=>.fl e 4 λ_ f=>.ie [f,I 1] λh=>.AJ h (.BW p 0 λ_ _ j=>.BW j 0 λ_ _ k=>.ea 13 [k,q] λm=>.fl m 5 λ_ n=>.Bk 188 [r,n] λo=>.rr [o]) (.rr [ff])) (.rr [ff])
theorem nu:LU cx 228 aFn:=λ_ _ _=>by kernel_rfl
def aBk(p q r:Aa):IT:=
 .cells 1 r λa=>.call 285 [q] λb=>.cells 1 b λc=>.call 233 [p,.func (.func 286) [] [.CB [g a 0],.CB [g c 0]]] λd=>.ih [d,I 0] λe=>.AJ e (.ld (.CB [g a 0]) λf=>.BW p 0 λ_ _ h=>.ea 4 [h,d] λj=>.load (some 4) j λk=>.FH f [k] λm=>.rr [m]) (.rr [ff])
theorem nX:LU cx 229 aBk:=λ_ _ _=>by kernel_rfl
def aFo(p q:Aa):IT:=
 .cells 4 p λa=>.ld q λb=>.call 158 [a4 a,b] λc=>.rr [c]
theorem nv:DU cx 230 aFo:=λ_ _=>by kernel_rfl
def aBl(p q:Aa):IT:=
 .cells 4 p λa=>.iq [g a 1,I 1] λb=>.AJ b (.rr [tt]) (.Bk 232 [g a 2] λc=>.nt [c] λd=>.AJ d (.rr [tt]) (.ld q λe=>.se [g a 2,e] λf=>.rr [f]))
theorem nY:DU cx 231 aBl:=λ_ _=>by kernel_rfl
def aBm(p:Aa):IT:=
 .se [p,S [100,100]] λa=>.AJ a (.rr [tt]) (.se [p,S [100,116]] λb=>.AJ b (.rr [tt]) (.se [p,S [108,105]] λc=>.AJ c (.rr [tt]) (.se [p,S aSX] λd=>.AJ d (.rr [tt]) (.se [p,S aTa] λe=>.AJ e (.rr [tt]) (.se [p,S [112]] λf=>.AJ f (.rr [tt]) (.se [p,S [114,98]] λh=>.AJ h (.rr [tt]) (.se [p,S [114,112]] λj=>.AJ j (.rr [tt]) (.se [p,S [114,116]] λk=>.AJ k (.rr [tt]) (.se [p,S [114,116,99]] λm=>.AJ m (.rr [tt]) (.rr [ff]))))))))))
theorem nZ:GQ cx 232 aBm:=λ_=>by kernel_rfl
def aBn(p q:Aa):IT:=
 .call 24 [p] λa=>.ib [a,I 1] λb=>.loop 2 [I 0,b] (λc=>.ih [g c 1,I 0] λd=>.AJ d (.BW p 0 λ_ _ e=>.ea 4 [e,g c 1] λf=>.load (some 4) f λh=>.FH q [h] λj=>.AJ j (.rr [g c 1,g c 1]) (.ib [g c 1,I 1] λk=>.rn [g c 0,k])) (.rx 0 [g c 0,g c 1])) (lx 0 (λm=>.rr [I (-1)]) λm=>.rr [g m 0])
theorem oA:DU cx 233 aBn:=λ_ _=>by kernel_rfl
def aBo(p q:Aa):IT:=
 .cells 4 p λa=>.ld q λb=>.ie [g a 0,b] λc=>.rr [c]
theorem oB:DU cx 234 aBo:=λ_ _=>by kernel_rfl
def aBp(p q:Aa):IT:=
 .cells 4 p λa=>.ld q λb=>.ie [g a 0,b] λc=>.rr [c]
theorem oC:DU cx 235 aBp:=λ_ _=>by kernel_rfl
def aBq(p q:Aa):IT:=
 .cells 4 p λa=>.ld q λb=>.op (.By 1) [b] λc=>.call 158 [a4 a,c] λd=>.rr [d]
theorem oD:DU cx 236 aBq:=λ_ _=>by kernel_rfl
def aFp(p:Aa):IT:=
 .cells 4 p λa=>.iq [g a 1,I 1] λb=>.AJ b (.rr [tt]) (.Bk 238 [g a 2] λc=>.nt [c] λd=>.rr [d])
theorem ny:GQ cx 237 aFp:=λ_=>by kernel_rfl
def aFq(p:Aa):IT:=
 .se [p,S aSN] λa=>.AJ a (.rr [tt]) (.se [p,S aSY] λb=>.AJ b (.rr [tt]) (.se [p,S aS7] λc=>.AJ c (.rr [tt]) (.se [p,S [116,100]] λd=>.AJ d (.rr [tt]) (.se [p,S aS6] λe=>.AJ e (.rr [tt]) (.se [p,S [116,104]] λf=>.AJ f (.rr [tt]) (.se [p,S aS8] λh=>.AJ h (.rr [tt]) (.se [p,S [116,114]] λj=>.AJ j (.rr [tt]) (.Bk 232 [p] λk=>.rr [k]))))))))
theorem nz:GQ cx 238 aFq:=λ_=>by kernel_rfl
def aBr(p q:Aa):IT:=
 .cells 3 p λa=>.fl q 0 λ_ b=>.ie [b,g a 0] λc=>.AJ c (.fl q 1 λ_ d=>.se [d,g a 1] λe=>.rr [e]) (.rr [ff])
theorem oE:DU cx 239 aBr:=λ_ _=>by kernel_rfl
def aBs(p q:Aa):IT:=
 .cells 1 q λa=>.call 148 [p,.func (.func 242) [] [.CB [g a 0]]] λb=>.nt [b] λc=>.rr [c]
theorem oF:DU cx 241 aBs:=λ_ _=>by kernel_rfl
def aBt(p q:Aa):IT:=
 .cells 3 p λa=>.ld q λb=>.call 243 [b,a3 a] λc=>.nt [c] λd=>.rr [d]
theorem oG:DU cx 242 aBt:=λ_ _=>by kernel_rfl
def aBu(p q:Aa):IT:=
 .cells 3 q λa=>.call 287 [p,a3 a] λb=>.ih [b,I 0] λc=>.rr [c]
theorem oH:DU cx 243 aBu:=λ_ _=>by kernel_rfl
def n_(p q:Aa):IT:=
 .call 94 [p,q] λa=>.nt [a] λb=>.AJ b (.rr [I 0]) (.call 43 [p,q] λc=>.fa c 0 λ_ d=>.fl d 1 λ_ e=>.rr [e])
theorem Y7:DU cx 244 n_:=λ_ _=>by kernel_rfl
def aBv(p q r:Aa):IT:=
 .ln [p] λa=>.mem (.eB 3) [p,q,r,a] λ_=>.ie [q,r] λb=>.AJ b (.rr [p]) (.ln [p] λc=>.op (.Hv 3 false false true) [p,q] λd=>.op (.Hv 3 false true false) [p,r] λe=>.Fs 3 48 d e λf=>.ln [f] λh=>.mem (.p8 3 true true) [f,h,c] λj=>.mem (.clear 3 [I 0,S [],.slnil]) [j] λ_=>.rr [f])
theorem oI:LU cx 245 aBv:=λ_ _ _=>by kernel_rfl
def aBw(p q:Aa):IT:=
 .cells 4 p λa=>.ld q λb=>.ie [g a 0,b] λc=>.rr [c]
theorem oJ:DU cx 246 aBw:=λ_ _=>by kernel_rfl
def oa(p q r:Aa):IT:=
 .cells 4 r λa=>.call 144 [p,q] λb=>.il [b,I 1] λc=>.AJ c (.Hy 0 p (.rr [ff])) (.BW p 0 λ_ _ d=>.call 288 [d] λe=>.fa p 0 λ_ f=>.store 1 f e (.BW p 0 λ_ _ h=>.ea 4 [h,b] λj=>.store 4 j (a4 a) (.Hy 0 p (.rr [tt]))))
theorem Y8:LU cx 247 oa:=λ_ _ _=>by kernel_rfl
def ob(p q r:Aa):IT:=
 .cells 3 r λa=>.call 92 [p,q] λb=>.il [b,I 0] λc=>.AJ c (.Hy 0 p (.rr [ff])) (.BW p 0 λ_ _ d=>.call 145 [d] λe=>.fa p 0 λ_ f=>.store 1 f e (.BW p 0 λ_ h j=>.call 169 [a3 a] λk=>.ld h λm=>.same j m (.ea 3 [j,b] λn=>.store 3 n k (.Hy 0 p (.rr [tt])))))
theorem Y9:LU cx 248 ob:=λ_ _ _=>by kernel_rfl
def aBx(p q:Aa):IT:=
 .op (.Hv 4 false false true) [p,q] λa=>.op (.append 4 40) [.slnil,a] λb=>.ia [q,I 1] λc=>.op (.Hv 4 false true false) [p,c] λd=>.op (.append 4 40) [b,d] λe=>.rr [e]
theorem oK:DU cx 249 aBx:=λ_ _=>by kernel_rfl
def Tu(p q r u:Aa):IT:=
 .Di 200001 (.call 164 [p,q] λa=>.nt [a] λb=>.AJ b (.rn [tt]) (.call 164 [p,r] λc=>.nt [c] λd=>.AJ d (.rn [tt]) (.iq [u,I 0] λe=>.AJ e (.call 164 [p,u] λf=>.nt [f] λh=>.rn [h]) (.rn [ff])))) (nx (λj=>.AJ (g j 0) (.rr [I 3]) (.BW p 0 λ_ _ k=>.ea 13 [k,q] λm=>.fl m 0 λ_ n=>.BW p 0 λ_ _ o=>.ea 13 [o,r] λs=>.fl s 0 λ_ w=>.Di 200004 (.iq [n,I 1] λy=>.AJ y (.iq [n,I 2] λz=>.AJ z (.iq [n,I 4] λa0=>.rn [a0]) (.rn [ff])) (.rn [ff])) (nx (λa1=>.AJ (g a1 0) (.rr [I 4]) (.Di 200006 (.ie [w,I 1] λa2=>.AJ a2 (.rn [tt]) (.ie [w,I 2] λa5=>.AJ a5 (.rn [tt]) (.call 297 [p,r,q] λa7=>.rn [a7]))) (nx (λa8=>.AJ (g a8 0) (.rr [I 4]) (.Di 200008 (.iq [u,I 0] λb0=>.AJ b0 (.ie [u,r] λb1=>.AJ b1 (.rn [tt]) (.BW p 0 λ_ _ b2=>.ea 13 [b2,u] λb3=>.fl b3 1 λ_ b4=>.iq [b4,q] λb5=>.rn [b5])) (.rn [ff])) (nx (λb6=>.AJ (g b6 0) (.rr [I 5]) (.rr [I 0])) λb6=>.rr [I 0]))) λa8=>.rr [I 0]))) λa1=>.rr [I 0]))) λj=>.rr [I 0])
theorem Jj:dk cx 257 Tu:=λ_ _ _ _=>by kernel_rfl
def aBy(p q:Aa):IT:=
 .call 164 [p,q] λa=>.nt [a] λb=>.AJ b (.rr [I 3]) (.BW p 0 λ_ _ c=>.ea 13 [c,q] λd=>.fl d 1 λ_ e=>.iq [e,I 0] λf=>.AJ f (.BW p 0 λ_ h j=>.BW p 0 λ_ _ k=>.ea 13 [k,e] λm=>.fl m 2 λ_ n=>.call 298 [n,q] λo=>.ld h λs=>.same j s (.ea 13 [j,e] λu=>.op (.Ec 2) [u] λw=>.store 1 w o (.BW p 0 λ_ _ y=>.ea 13 [y,q] λz=>.op (.Ec 1) [z] λa0=>.store 1 a0 i0 (.rr [I 0])))) (.rr [I 0]))
theorem oL:DU cx 258 aBy:=λ_ _=>by kernel_rfl
def aFr(p q:Aa):IT:=
 .loop 2 [ff,I 0] (λa=>.lt [p] λb=>.il [g a 1,b] λc=>.AJ c (.op .Rw [p,g a 1] λd=>.ie [d,q] λe=>.AJ e (.rr [tt,g a 1]) (.ia [g a 1,I 1] λf=>.rn [g a 0,f])) (.rx 0 [g a 0,g a 1])) (lx 0 (λh=>.rr [ff]) λh=>.rr [g h 0])
theorem od:DU cx 259 aFr:=λ_ _=>by kernel_rfl
def aFs(p:Aa):IT:=
 .ih [p,.int .u8 65] λa=>.AJ a (.ik [p,.int .u8 90] λb=>.rr [b]) (.rr [ff])
theorem oe:GQ cx 260 aFs:=λ_=>by kernel_rfl
def aFt(p q:Aa):IT:=
 .ib [q,I 1] λa=>.loop 2 [I 0,a] (λb=>.ih [g b 1,I 0] λc=>.AJ c (.BW p 2 λ_ _ d=>.ea 4 [d,g b 1] λe=>.load (some 4) e λf=>.op (.By 1) [S aSC] λh=>.call 214 [f,h] λj=>.AJ j (.rr [I 16,g b 1]) (.BW p 2 λ_ _ k=>.ea 4 [k,g b 1] λm=>.load (some 4) m λn=>.op (.By 1) [S aSI] λo=>.call 214 [n,o] λs=>.AJ s (.rr [I 17,g b 1]) (.ib [g b 1,I 1] λu=>.rn [g b 0,u]))) (.rx 0 [g b 0,g b 1])) (lx 0 (λw=>.rr [I 16]) λw=>.rr [g w 0])
theorem og:DU cx 261 aFt:=λ_ _=>by kernel_rfl
def aFu(p q:Aa):IT:=
 .cells 13 p λa=>.cells 13 q λb=>.ie [g a 0,g b 0] λc=>.AJ c (.ie [g a 4,g b 4] λd=>.AJ d (.se [g a 5,g b 5] λe=>.AJ e (.call 299 [g a 6,g b 6] λf=>.AJ f (.se [g a 7,g b 7] λh=>.AJ h (.se [g a 8,g b 8] λj=>.AJ j (.se [g a 9,g b 9] λk=>.AJ k (.op (.beq false) [g a 10,g b 10] λm=>.rr [m]) (.rr [ff])) (.rr [ff])) (.rr [ff])) (.rr [ff])) (.rr [ff])) (.rr [ff])) (.rr [ff])
theorem oh:DU cx 262 aFu:=λ_ _=>by kernel_rfl
def aFv(p:Aa):IT:=
 .loop 5 [I 0,I 1,.int .u8 0,I 0] (λa=>.lt [p] λb=>.il [g a 3,b] λc=>.AJ c (.op .Rw [p,g a 3] λd=>.op (.int .or) [g a 2,d] λe=>.op (.Uc 256 1) [.CB JG,d] λf=>.ld f λh=>.op (.conv .i64) [h] λj=>.op (.un .xor) [j] λk=>.op (.int .and) [g a 1,k] λm=>.ia [g a 0,m] λn=>.ia [g a 3,I 1] λo=>.rn [n,j,e,o]) (.rx 0 [g a 0,g a 1,g a 2,g a 3])) (lx 0 (λs=>.ih [g s 2,.int .u8 128] λu=>.AJ u (.call 300 [p,.func (.func 301) [] []] λw=>.KW w λy=>.rr [y]) (.make 1 16 [S []] (g s 0) (g s 0) λz=>.loop 18 [I 0] (λa0=>.lt [p] λa1=>.il [g a0 0,a1] λa2=>.AJ a2 (.op .Rw [p,g a0 0] λa5=>.op (.Uc 256 1) [.CB JG,a5] λa7=>.ld a7 λa8=>.iq [a8,.int .u8 0] λb0=>.AJ b0 (.ia [g a0 0,I 1] λb1=>.rn [b1]) (.rx 2 [g a0 0])) (.rx 2 [g a0 0])) (lx 2 (λb2=>.loop 21 [I 0,g b2 0,g b2 0] (λb3=>.lt [p] λb4=>.il [g b3 2,b4] λb5=>.AJ b5 (.op .Rw [p,g b3 2] λb6=>.op (.Uc 256 1) [.CB JG,b6] λb7=>.ld b7 λb8=>.ie [b8,.int .u8 0] λb9=>.AJ b9 (.ia [g b3 2,I 1] λc1=>.rn [g b3 0,g b3 1,c1]) (.op (.Hv 0 true true true) [p,g b3 1,g b3 2] λc2=>.ea 1 [z,g b3 0] λc3=>.store 1 c3 c2 (.ia [g b3 0,I 1] λc4=>.ia [g b3 2,I 1] λc5=>.loop 27 [c5] (λc6=>.lt [p] λc7=>.il [g c6 0,c7] λc8=>.AJ c8 (.op .Rw [p,g c6 0] λc9=>.op (.Uc 256 1) [.CB JG,c9] λd0=>.ld d0 λd1=>.iq [d1,.int .u8 0] λd2=>.AJ d2 (.ia [g c6 0,I 1] λd3=>.rn [d3]) (.rx 6 [g c6 0])) (.rx 6 [g c6 0])) (λx d4=>match x with| .normal=>.fail| .exit i=>if i=6 then .rn [c4,g d4 0,g d4 0] else if i=5 then .rn [c4,g b3 1,g d4 0] else .ret (.exit i) [c4,g b3 1,g d4 0]| .ret=>.rr [c4,g b3 1,g d4 0])))) (.rx 4 [g b3 0,g b3 1,g b3 2])) (lx 4 (λd5=>.lt [p] λd6=>.il [g d5 1,d6] λd7=>.AJ d7 (.op (.Hv 0 true true false) [p,g d5 1] λd8=>.ea 1 [z,g d5 0] λd9=>.store 1 d9 d8 (.KW z λe0=>.rr [e0])) (.KW z λe1=>.rr [e1])) λd5=>.KW .slnil λe2=>.rr [e2])) λb2=>.KW .slnil λe3=>.rr [e3]))) λs=>.KW .slnil λe4=>.rr [e4])
theorem oj:GQ cx 263 aFv:=λ_=>by kernel_rfl
def aBz(p q r:Aa):IT:=
 .ln [p] λa=>.mem (.eB 1) [p,q,r,a] λ_=>.ie [q,r] λb=>.AJ b (.rr [p]) (.ln [p] λc=>.op (.Hv 1 false false true) [p,q] λd=>.op (.Hv 1 false true false) [p,r] λe=>.Fs 1 8 d e λf=>.ln [f] λh=>.mem (.p8 1 true true) [f,h,c] λj=>.mem (.clear 1 [I 0]) [j] λ_=>.rr [f])
theorem oM:LU cx 265 aBz:=λ_ _ _=>by kernel_rfl
def aBA(p:Aa):IT:=
 .call 304 [.int .i32 65,.int .i32 90] λa=>.FH a [p] λb=>.rr [b]
theorem oN:GQ cx 268 aBA:=λ_=>by kernel_rfl
def aFw(p:Aa):IT:=
 .BW p 2 λ_ _ a=>.BW p 2 λ_ b c=>.call 222 [a,S aSC] λd=>.ld b λe=>.same c e (.call 222 [c,S aSI] λf=>.Di 200002 (.ih [d,I 0] λh=>.AJ h (.ig [d,f] λj=>.rn [j]) (.rn [ff])) (nx (λk=>.AJ (g k 0) (.BW p 2 λ_ _ m=>.ea 4 [m,d] λn=>.fl n 0 λ_ o=>.rr [.tuple [o,I 0]]) (.il [f,I 0] λs=>.AJ s (.BW p 2 λ_ _ u=>.call 305 [u,I 0] λw=>.op (.part 0 none) [w] λy=>.rr [.tuple [y,I 0]]) (.BW p 2 λ_ _ z=>.ea 4 [z,f] λa0=>.fl a0 0 λ_ a1=>.BW p 0 λ_ _ a2=>.call 306 [a2,a1] λa5=>.iq [a5,I 0] λa7=>.AJ a7 (.BW p 0 λ_ _ a8=>.call 306 [a8,a1] λb0=>.rr [.tuple [b0,a1]]) (.ie [f,I 0] λb1=>.AJ b1 (.rr [.tuple [a1,I 0]]) (.BW p 2 λ_ _ b2=>.ib [f,I 1] λb3=>.ea 4 [b2,b3] λb4=>.fl b4 0 λ_ b5=>.rr [.tuple [b5,I 0]]))))) λk=>.rr [.tuple [I 0,I 0]]))
theorem om:GQ cx 269 aFw:=λ_=>by kernel_rfl
def aFx(p q:Aa):IT:=
 .cells 3 p λa=>.cells 3 q λb=>.op (.str .neq) [g a 1,g b 1] λc=>.AJ c (.rr [ff]) (.ln [g a 2] λd=>.ln [g b 2] λe=>.iq [d,e] λf=>.AJ f (.rr [ff]) (.loop 4 [ff,I 0] (λh=>.ln [g a 2] λj=>.il [g h 1,j] λk=>.AJ k (.ea 3 [g a 2,g h 1] λm=>.load (some 3) m λn=>.call 307 [g b 2,n] λo=>.nt [o] λs=>.AJ s (.rr [ff,g h 1]) (.ea 3 [g b 2,g h 1] λu=>.load (some 3) u λw=>.call 307 [g a 2,w] λy=>.nt [y] λz=>.AJ z (.rr [ff,g h 1]) (.ia [g h 1,I 1] λa0=>.rn [g h 0,a0]))) (.rx 0 [g h 0,g h 1])) (lx 0 (λa1=>.rr [tt]) λa1=>.rr [g a1 0])))
theorem oo:DU cx 270 aFx:=λ_ _=>by kernel_rfl
def aFy(p q:Aa):IT:=
 .loop 3 [.slnil,I 0] (λa=>.ln [p] λb=>.il [g a 1,b] λc=>.AJ c (.iq [g a 1,q] λd=>.AJ d (.ea 3 [p,g a 1] λe=>.load (some 3) e λf=>.op (.By 3) [f] λh=>.op (.append 3 48) [g a 0,h] λj=>.ia [g a 1,I 1] λk=>.rn [j,k]) (.ia [g a 1,I 1] λm=>.rn [g a 0,m])) (.rx 0 [g a 0,g a 1])) (lx 0 (λn=>.rr [g n 0]) λn=>.rr [.slnil])
theorem oq:DU cx 271 aFy:=λ_ _=>by kernel_rfl
def aFz(p q r:Aa):IT:=
 .ia [q,I 1] λa=>.loop 2 [ff,a] (λb=>.ln [p] λc=>.il [g b 1,c] λd=>.AJ d (.ea 4 [p,g b 1] λe=>.load (some 4) e λf=>.call 308 [f,r] λh=>.AJ h (.rr [ff,g b 1]) (.ia [g b 1,I 1] λj=>.rn [g b 0,j])) (.rx 0 [g b 0,g b 1])) (lx 0 (λk=>.rr [tt]) λk=>.rr [g k 0])
theorem ot:LU cx 272 aFz:=λ_ _ _=>by kernel_rfl
def aFA(p:Aa):IT:=
 .Bk 188 [S aSD,p] λa=>.rr [a]
theorem ou:GQ cx 273 aFA:=λ_=>by kernel_rfl
def aFB(p:Aa):IT:=
 .Bk 188 [S aSD,p] λa=>.AJ a (.rr [tt]) (.Bk 188 [S aSE,p] λb=>.rr [b])
theorem ov:GQ cx 274 aFB:=λ_=>by kernel_rfl
def aFC(p q:Aa):IT:=
 .loop 3 [I (-1),I 0] (λa=>.ln [p] λb=>.il [g a 1,b] λc=>.AJ c (.ea 4 [p,g a 1] λd=>.fl d 0 λ_ e=>.ie [e,q] λf=>.AJ f (.ia [g a 1,I 1] λh=>.rn [g a 1,h]) (.ia [g a 1,I 1] λj=>.rn [g a 0,j])) (.rx 0 [g a 0,g a 1])) (lx 0 (λk=>.rr [g k 0]) λk=>.rr [I 0])
theorem oz:DU cx 275 aFC:=λ_ _=>by kernel_rfl
def aFD(p:Aa):IT:=
 .ln [p] λa=>.ib [a,I 1] λb=>.call 305 [p,b] λc=>.cells 4 c λd=>.rr [a4 d]
theorem o_:GQ cx 276 aFD:=λ_=>by kernel_rfl
def aFE(p q:Aa):IT:=
 .call 224 [p] λa=>.loop 3 [I (-1),a] (λb=>.ln [p] λc=>.il [g b 1,c] λd=>.AJ d (.ea 3 [p,g b 1] λe=>.fl e 1 λ_ f=>.se [f,q] λh=>.AJ h (.ia [g b 1,I 1] λj=>.rn [g b 1,j]) (.ia [g b 1,I 1] λk=>.rn [g b 0,k])) (.rx 0 [g b 0,g b 1])) (lx 0 (λm=>.rr [g m 0]) λm=>.rr [I 0])
theorem pc:DU cx 277 aFE:=λ_ _=>by kernel_rfl
def aBB(p q:Aa):IT:=
 .BW p 3 λ_ _ a=>.call 218 [a,q] λb=>.ih [b,I 0] λc=>.AJ c (.BW p 3 λ_ _ d=>.call 271 [d,b] λe=>.fa p 3 λ_ f=>.store 1 f e (.rr [.tuple []])) (.rr [.tuple []])
theorem oO:DU cx 278 aBB:=λ_ _=>by kernel_rfl
def aFF(p q r:Aa):IT:=
 .call 275 [p,r] λa=>.ih [a,I 0] λb=>.AJ b (.call 272 [p,a,q] λc=>.rr [c]) (.rr [ff])
theorem pd:LU cx 279 aFF:=λ_ _ _=>by kernel_rfl
def aFG(p q:Aa):IT:=
 .call 275 [p,q] λa=>.il [a,I 0] λb=>.AJ b (.rr [I (-1)]) (.ia [a,I 1] λc=>.loop 5 [I 0,c] (λd=>.ln [p] λe=>.il [g d 1,e] λf=>.AJ f (.ea 4 [p,g d 1] λh=>.fl h 1 λ_ j=>.ea 4 [p,g d 1] λk=>.fl k 2 λ_ m=>.Bk 216 [j,m] λn=>.AJ n (.rr [g d 1,g d 1]) (.ia [g d 1,I 1] λo=>.rn [g d 0,o])) (.rx 0 [g d 0,g d 1])) (lx 0 (λs=>.rr [I (-1)]) λs=>.rr [g s 0]))
theorem pg:DU cx 280 aFG:=λ_ _=>by kernel_rfl
def aFH(p q r u w:Aa):IT:=
 .BW p 2 λ_ _ a=>.ea 4 [a,u] λb=>.fl b 0 λ_ c=>.ib [u,I 1] λd=>.loop 4 [c,q,d] (λe=>.ig [g e 2,r] λf=>.AJ f (.BW p 2 λ_ _ h=>.ea 4 [h,g e 2] λj=>.load (some 4) j λk=>.cells 4 k λm=>.BW p 3 λ_ _ n=>.call 218 [n,g m 0] λo=>.Di 200008 (.ib [u,g e 2] λs=>.ig [s,I 3] λy=>.AJ y (.ih [o,I 0] λz=>.rn [z]) (.rn [ff])) (λx a0=>match x with| .normal=>.Di 100058 (.AJ (g a0 0) (.BW p 3 λ_ _ a1=>.call 271 [a1,o] λa2=>.fa p 3 λ_ a5=>.store 1 a5 a2 (.il [o,g e 1] λa7=>.Di 100070 (.AJ a7 (.ib [g e 1,I 1] λa8=>.rn [a8]) (.rn [g e 1])) (λx b0=>match x with| .normal=>.rn [g b0 0,I (-1)]| .exit i=>.ret (.exit i) [g b0 0,o]| .ret=>.rr [g b0 0,o]))) (.rn [g e 1,o])) (λx b1=>match x with| .normal=>.il [g b1 1,I 0] λb2=>.AJ b2 (.BW p 2 λ_ _ b3=>.op (.Hv 4 false false true) [b3,g e 2] λb4=>.op (.append 4 40) [.slnil,b4] λb5=>.BW p 2 λ_ _ b6=>.ia [g e 2,I 1] λb7=>.op (.Hv 4 false true false) [b6,b7] λb8=>.op (.append 4 40) [b5,b8] λb9=>.fa p 2 λ_ c0=>.store 1 c0 b9 (.ib [g e 2,I 1] λc1=>.rn [g e 0,g b1 0,c1])) (.BW p 3 λ_ _ c2=>.ea 3 [c2,g b1 1] λc3=>.load (some 3) c3 λc4=>.cells 3 c4 λc5=>.op (.Bs [I 0,S [],ff,S [],ff,S [],ff,ff,.slnil,ff,S [],.int .i32 0] [(0,1),(1,1),(8,1)]) [I 2,g c5 1,g c5 2] λc6=>.call 140 [p,c6,I 1,w] λc8=>.cells 4 c8 λc9=>.BW p 2 λ_ _ d0=>.op (.Hv 4 false false true) [d0,g e 2] λd1=>.op (.append 4 40) [.slnil,d1] λd2=>.op (.By 4) [a4 c9] λd3=>.op (.append 4 40) [d2,d3] λd4=>.BW p 2 λ_ _ d5=>.ia [g e 2,I 1] λd6=>.op (.Hv 4 false true false) [d5,d6] λd7=>.op (.append 4 40) [d4,d7] λd8=>.fa p 2 λ_ d9=>.store 1 d9 d8 (.cells 1 (g c9 0) λe0=>.BW p 3 λ_ _ e1=>.call 271 [e1,g b1 1] λe2=>.call 136 [e2,.agg [g e0 0,g c5 1,g c5 2],g b1 1] λe3=>.fa p 3 λ_ e4=>.store 1 e4 e3 (.ie [g e 0,c] λe5=>.Di 100146 (.AJ e5 (.ia [g b1 1,I 1] λe6=>.rn [e6]) (.rn [g b1 0])) (λx e7=>match x with| .normal=>.BW p 0 λ_ _ e8=>.call 187 [e8,g c9 0,g e 0,I 0] λ_=>.ib [g e 2,I 1] λe9=>.rn [g c9 0,g e7 0,e9]| .exit i=>if i=1 then .ib [g e 2,I 1] λf0=>.rn [g e 0,g e7 0,f0] else .ret (.exit i) [g e 0,g e7 0,g e 2]| .ret=>.rr [g e 0,g e7 0,g e 2]))))| .exit i=>if i=1 then .ib [g e 2,I 1] λf1=>.rn [g e 0,g b1 0,f1] else .ret (.exit i) [g e 0,g b1 0,g e 2]| .ret=>.rr [g e 0,g b1 0,g e 2])| .exit i=>if i=1 then .ib [g e 2,I 1] λf2=>.rn [g e 0,g e 1,f2] else .ret (.exit i) [g e 0,g e 1,g e 2]| .ret=>.rr [g e 0,g e 1,g e 2])) (.rx 0 [g e 0,g e 1,g e 2])) (lx 0 (λf3=>.rr [.tuple [g f3 0,g f3 1]]) λf3=>.rr [.tuple [I 0,I 0]])
theorem ph:Tq5 cx 281 aFH:=λ_ _ _ _ _=>by kernel_rfl
def pj(p q:Aa):IT:=
 .call 275 [p,q] λa=>.il [a,I 1] λb=>.AJ b (.ln [p] λc=>.call 225 [p,c] λd=>.KW d λe=>.KW ff λf=>.rr [.tuple [e,f]]) (.ia [a,I 1] λh=>.op (.Hv 4 false true false) [p,h] λj=>.call 225 [p,a] λk=>.Fs 4 40 k j λm=>.KW m λn=>.KW tt λo=>.rr [.tuple [n,o]])
theorem Za:DU cx 282 pj:=λ_ _=>by kernel_rfl
def aFI(p q r:Aa):IT:=
 .cells 4 q λa=>.il [r,I 1] λb=>.AJ b (.ln [p] λc=>.ig [I 1,c] λd=>.AJ d (.ln [p] λe=>.op (.Hv 4 false false true) [p,e] λf=>.op (.append 4 40) [.slnil,f] λh=>.op (.By 4) [a4 a] λj=>.op (.append 4 40) [h,j] λk=>.op (.Hv 4 false true false) [p,e] λm=>.op (.append 4 40) [k,m] λn=>.rr [n]) (.op (.Hv 4 false false true) [p,I 1] λo=>.op (.append 4 40) [.slnil,o] λs=>.op (.By 4) [a4 a] λu=>.op (.append 4 40) [s,u] λw=>.op (.Hv 4 false true false) [p,I 1] λy=>.op (.append 4 40) [w,y] λz=>.rr [z])) (.ln [p] λa0=>.ig [r,a0] λa1=>.AJ a1 (.ln [p] λa2=>.op (.Hv 4 false false true) [p,a2] λa5=>.op (.append 4 40) [.slnil,a5] λa7=>.op (.By 4) [a4 a] λa8=>.op (.append 4 40) [a7,a8] λb0=>.op (.Hv 4 false true false) [p,a2] λb1=>.op (.append 4 40) [b0,b1] λb2=>.rr [b2]) (.op (.Hv 4 false false true) [p,r] λb3=>.op (.append 4 40) [.slnil,b3] λb4=>.op (.By 4) [a4 a] λb5=>.op (.append 4 40) [b4,b5] λb6=>.op (.Hv 4 false true false) [p,r] λb7=>.op (.append 4 40) [b6,b7] λb8=>.rr [b8]))
theorem pk:LU cx 283 aFI:=λ_ _ _=>by kernel_rfl
def aFJ(p q:Aa):IT:=
 .loop 3 [S [],I 0,I 0] (λa=>.lt [p] λb=>.ik [g a 2,b] λc=>.AJ c (.lt [p] λd=>.ie [g a 2,d] λe=>.AJ e (.op (.Hv 0 true true true) [p,g a 1,g a 2] λf=>.Bk 189 [f] λh=>.se [h,q] λj=>.AJ j (.op (.Hv 0 true true true) [p,g a 1,g a 2] λk=>.rr [k,g a 1,g a 2]) (.ia [g a 2,I 1] λm=>.ia [g a 2,I 1] λn=>.rn [g a 0,m,n])) (.op .Rw [p,g a 2] λo=>.ie [o,.int .u8 32] λs=>.AJ s (.op (.Hv 0 true true true) [p,g a 1,g a 2] λu=>.Bk 189 [u] λw=>.se [w,q] λy=>.AJ y (.op (.Hv 0 true true true) [p,g a 1,g a 2] λz=>.rr [z,g a 1,g a 2]) (.ia [g a 2,I 1] λa0=>.ia [g a 2,I 1] λa1=>.rn [g a 0,a0,a1])) (.ia [g a 2,I 1] λa2=>.rn [g a 0,g a 1,a2]))) (.rx 0 [g a 0,g a 1,g a 2])) (lx 0 (λa5=>.rr [q]) λa5=>.rr [g a5 0])
theorem po:DU cx 284 aFJ:=λ_ _=>by kernel_rfl
def zO(p:Aa):IT:=
 .cells 1 p λa=>.ie [g a 0,I 4] λb=>.AJ b (.rr [.func (.func 309) [] []]) (.ie [g a 0,I 5] λc=>.AJ c (.rr [.func (.func 310) [] []]) (.rr [.func (.func 311) [] [.CB [g a 0]]]))
theorem T7:GQ cx 285 zO:=λ_=>by kernel_rfl
def aBC(p q r:Aa):IT:=
 .cells 4 p λa=>.ld q λb=>.FH b [a4 a] λc=>.AJ c (.rr [tt]) (.ld r λd=>.FH d [a4 a] λe=>.rr [e])
theorem oP:LU cx 286 aBC:=λ_ _ _=>by kernel_rfl
def aBD(p q:Aa):IT:=
 .cells 3 q λa=>.ln [p] λb=>.loop 2 [I 0,I 0] (λc=>.il [g c 1,b] λd=>.AJ d (.ea 3 [p,g c 1] λe=>.load (some 3) e λf=>.op (.geq false [.i,.s,.s]) [a3 a,f] λh=>.AJ h (.rr [g c 1,g c 1]) (.ia [g c 1,I 1] λj=>.rn [g c 0,j])) (.rx 0 [g c 0,g c 1])) (lx 0 (λk=>.rr [I (-1)]) λk=>.rr [g k 0])
theorem oQ:DU cx 287 aBD:=λ_ _=>by kernel_rfl
def aBE(p:Aa):IT:=
 .op (.Gp false .sl) [p,.slnil] λa=>.AJ a (.rr [.slnil]) (.op (.By 4) [] λb=>.Hw 4 40 b p λc=>.rr [c])
theorem oR:GQ cx 288 aBE:=λ_=>by kernel_rfl
def aFK(p q r:Aa):IT:=
 .call 164 [p,q] λa=>.nt [a] λb=>.AJ b (.rr [ff]) (.call 164 [p,r] λc=>.nt [c] λd=>.AJ d (.rr [ff]) (.loop 3 [r,ff] (λe=>.iq [g e 0,I 0] λf=>.AJ f (.ie [g e 0,q] λh=>.AJ h (.rr [g e 0,tt]) (.call 166 [p,g e 0] λj=>.rn [j,g e 1])) (.rx 0 [g e 0,g e 1])) (lx 0 (λk=>.rr [ff]) λk=>.rr [g k 1])))
theorem pq:LU cx 297 aFK:=λ_ _ _=>by kernel_rfl
def aFL(p q:Aa):IT:=
 .loop 3 [.slnil,I 0] (λa=>.ln [p] λb=>.il [g a 1,b] λc=>.AJ c (.ea 1 [p,g a 1] λd=>.ld d λe=>.iq [e,q] λf=>.AJ f (.ea 1 [p,g a 1] λh=>.ld h λj=>.op (.By 1) [j] λk=>.op (.append 1 8) [g a 0,k] λm=>.ia [g a 1,I 1] λn=>.rn [m,n]) (.ia [g a 1,I 1] λo=>.rn [g a 0,o])) (.rx 0 [g a 0,g a 1])) (lx 0 (λs=>.rr [g s 0]) λs=>.rr [.slnil])
theorem pv:DU cx 298 aFL:=λ_ _=>by kernel_rfl
def aFM(p q:Aa):IT:=
 .ln [p] λa=>.ln [q] λb=>.iq [a,b] λc=>.AJ c (.rr [ff]) (.loop 4 [ff,I 0] (λd=>.ln [p] λe=>.il [g d 1,e] λf=>.AJ f (.ea 3 [p,g d 1] λh=>.load (some 3) h λj=>.ea 3 [q,g d 1] λk=>.load (some 3) k λm=>.op (.geq true [.i,.s,.s]) [j,m] λn=>.AJ n (.rr [ff,g d 1]) (.ia [g d 1,I 1] λo=>.rn [g d 0,o])) (.rx 0 [g d 0,g d 1])) (lx 0 (λs=>.rr [tt]) λs=>.rr [g s 0]))
theorem px:DU cx 299 aFM:=λ_ _=>by kernel_rfl
def aFN(p q:Aa):IT:=
 .make 2 16 [I 0,I 0] i0 (I 32) λ_=>.fail
theorem py:DU cx 300 aFN:=λ_ _=>by kernel_rfl
def aBF(p q:Aa):IT:=
 .cells 1 p λa=>.cells 1 q λb=>.rr [.func (.func 318) [] [.CB [g a 0],.CB [g b 0]]]
theorem oS:DU cx 304 aBF:=λ_ _=>by kernel_rfl
def aFO(p q:Aa):IT:=
 .il [q,I 0] λa=>.AJ a (.op (.Bs [I 0,I 0,S [],ff] []) [] λb=>.cells 4 b λc=>.rr [a4 c]) (.ln [p] λd=>.ih [q,d] λe=>.AJ e (.op (.Bs [I 0,I 0,S [],ff] []) [] λf=>.cells 4 f λh=>.rr [a4 h]) (.ea 4 [p,q] λj=>.load (some 4) j λk=>.cells 4 k λm=>.rr [a4 m]))
theorem pz:DU cx 305 aFO:=λ_ _=>by kernel_rfl
def aFP(p q:Aa):IT:=
 .call 164 [p,q] λa=>.nt [a] λb=>.AJ b (.rr [I 0]) (.BW p 0 λ_ _ c=>.ea 13 [c,q] λd=>.fl d 1 λ_ e=>.rr [e])
theorem p_:DU cx 306 aFP:=λ_ _=>by kernel_rfl
def aFQ(p q:Aa):IT:=
 .cells 3 q λa=>.loop 2 [ff,I 0] (λb=>.ln [p] λc=>.il [g b 1,c] λd=>.AJ d (.ea 3 [p,g b 1] λe=>.load (some 3) e λf=>.op (.geq false [.i,.s,.s]) [f,a3 a] λh=>.AJ h (.rr [tt,g b 1]) (.ia [g b 1,I 1] λj=>.rn [g b 0,j])) (.rx 0 [g b 0,g b 1])) (lx 0 (λk=>.rr [ff]) λk=>.rr [g k 0])
theorem qa:DU cx 307 aFQ:=λ_ _=>by kernel_rfl
def aFR(p q:Aa):IT:=
 .cells 4 p λa=>.ie [g a 1,I 1] λb=>.ie [q,I 4] λc=>.AJ c (.AJ b (.Bk 188 [S aSO,g a 2] λd=>.rr [d]) (.rr [ff])) (.ie [q,I 5] λe=>.AJ e (.nt [b] λf=>.AJ f (.rr [tt]) (.Bk 188 [S aST,g a 2] λh=>.nt [h] λj=>.rr [j])) (.AJ b (.ie [q,I 2] λk=>.AJ k (.Bk 188 [S aTn,g a 2] λm=>.AJ m (.rr [tt]) (.AJ b (.ie [q,I 3] λn=>.AJ n (.se [g a 2,S aSJ] λo=>.AJ o (.rr [tt]) (.AJ b (.Bk 188 [S aSA,g a 2] λs=>.rr [s]) (.Bk 216 [g a 1,g a 2] λu=>.rr [u]))) (.AJ b (.Bk 188 [S aSA,g a 2] λw=>.rr [w]) (.Bk 216 [g a 1,g a 2] λy=>.rr [y]))) (.AJ b (.Bk 188 [S aSA,g a 2] λz=>.rr [z]) (.Bk 216 [g a 1,g a 2] λa0=>.rr [a0])))) (.AJ b (.ie [q,I 3] λa1=>.AJ a1 (.se [g a 2,S aSJ] λa2=>.AJ a2 (.rr [tt]) (.AJ b (.Bk 188 [S aSA,g a 2] λa5=>.rr [a5]) (.Bk 216 [g a 1,g a 2] λa7=>.rr [a7]))) (.AJ b (.Bk 188 [S aSA,g a 2] λa8=>.rr [a8]) (.Bk 216 [g a 1,g a 2] λb0=>.rr [b0]))) (.AJ b (.Bk 188 [S aSA,g a 2] λb1=>.rr [b1]) (.Bk 216 [g a 1,g a 2] λb2=>.rr [b2])))) (.AJ b (.ie [q,I 3] λb3=>.AJ b3 (.se [g a 2,S aSJ] λb4=>.AJ b4 (.rr [tt]) (.AJ b (.Bk 188 [S aSA,g a 2] λb5=>.rr [b5]) (.Bk 216 [g a 1,g a 2] λb6=>.rr [b6]))) (.AJ b (.Bk 188 [S aSA,g a 2] λb7=>.rr [b7]) (.Bk 216 [g a 1,g a 2] λb8=>.rr [b8]))) (.AJ b (.Bk 188 [S aSA,g a 2] λb9=>.rr [b9]) (.Bk 216 [g a 1,g a 2] λc1=>.rr [c1])))))
theorem qb:DU cx 308 aFR:=λ_ _=>by kernel_rfl
def aBG(p:Aa):IT:=
 .cells 4 p λa=>.op (.By 1) [S aSL,S aSI,S aSC] λb=>.call 158 [a4 a,b] λc=>.rr [c]
theorem oT:GQ cx 309 aBG:=λ_=>by kernel_rfl
def aBH(p:Aa):IT:=
 .cells 4 p λa=>.op (.By 1) [S aSX,S aTa] λb=>.call 158 [a4 a,b] λc=>.nt [c] λd=>.rr [d]
theorem oU:GQ cx 310 aBH:=λ_=>by kernel_rfl
def aBI(p q:Aa):IT:=
 .cells 4 p λa=>.ie [g a 1,I 3] λb=>.AJ b (.Bk 117 [g a 1,g a 2] λc=>.rr [c]) (.ie [g a 1,I 2] λd=>.AJ d (.Bk 117 [g a 1,g a 2] λe=>.rr [e]) (.op (.By 1) [S aTj,S aSN,S aSL,S aTg,S aTk,S aSI,S [116,100],S aSC,S [116,104]] λf=>.call 158 [a4 a,f] λh=>.AJ h (.rr [tt]) (.ld q λj=>.ie [j,I 2] λk=>.AJ k (.op (.By 1) [S [111,108],S [117,108]] λm=>.call 158 [a4 a,m] λn=>.AJ n (.rr [tt]) (.ld q λo=>.ie [o,I 3] λs=>.AJ s (.op (.By 1) [S aSJ] λu=>.call 158 [a4 a,u] λw=>.rr [w]) (.rr [ff]))) (.ld q λy=>.ie [y,I 3] λz=>.AJ z (.op (.By 1) [S aSJ] λa0=>.call 158 [a4 a,a0] λa1=>.rr [a1]) (.rr [ff])))))
theorem oV:DU cx 311 aBI:=λ_ _=>by kernel_rfl
def aBJ(p q r:Aa):IT:=
 .ld q λa=>.ik [a,p] λb=>.AJ b (.ld r λc=>.ik [p,c] λd=>.rr [d]) (.rr [ff])
theorem oW:LU cx 318 aBJ:=λ_ _ _=>by kernel_rfl
def oX(p:Aa):IT:=
 .call 52 [p] λa=>.nt [a] λb=>.AJ b (.op (.Bs [I 0,I 0,.slnil,.slnil,.slnil,I 0,I 0,ff,ff,S [],ff,I 0,ff] []) [] λc=>.cells 13 c λd=>.rr [Ts d]) (.BW p 4 λ_ e f=>.BW p 5 λ_ h j=>.BW p 6 λ_ _ k=>.BW p 7 λ_ m n=>.BW p 8 λ_ o s=>.BW p 14 λ_ u w=>.BW p 15 λ_ y z=>.BW p 16 λ_ a0 a1=>.BW p 17 λ_ a2 a5=>.BW p 18 λ_ a7 a8=>.BW p 19 λ_ b0 b1=>.call 100053 [k] λb2=>.ld b0 λb3=>.same b1 b3 (.ld a7 λb4=>.same a8 b4 (.ld a2 λb5=>.same a5 b5 (.ld a0 λb6=>.same a1 b6 (.ld y λb7=>.same z b7 (.ld u λb8=>.same w b8 (.ld o λb9=>.same s b9 (.ld m λc0=>.same n c0 (.ld h λc1=>.same j c1 (.ld e λc2=>.same f c2 (.op (.Bs [I 0,I 0,.slnil,.slnil,.slnil,I 0,I 0,ff,ff,S [],ff,I 0,ff] [(0,1),(1,1),(2,1),(5,1),(6,1),(7,1),(8,1),(9,1),(10,1),(11,1),(12,1)]) [f,j,b2,n,s,w,z,a1,a5,a8,b1] λc4=>.cells 13 c4 λc5=>.fa p 2 λ_ c6=>.fl c6 0 λ_ c7=>.ln [c7] λc8=>.loop 5 [Ts c5,I 0] (λc9=>.cells 13 (g c9 0) λd0=>.il [g c9 1,c8] λd1=>.AJ d1 (.ea 4 [c7,g c9 1] λd2=>.load (some 4) d2 λd3=>.cells 4 d3 λd4=>.op (.By 1) [g d4 0] λd5=>.Fs 1 8 (g d0 3) d5 λd6=>.cells 1 d6 λd7=>.ia [g c9 1,I 1] λd8=>.rn [.agg [g d0 0,g d0 1,g d0 2,g d7 0,g d0 4,g d0 5,g d0 6,g d0 7,g d0 8,g d0 9,g d0 10,g d0 11,g d0 12],d8]) (.rx 0 [Ts d0,g c9 1])) (λx d9=>.cells 13 (g d9 0) λe0=>match x with| .normal=>.fail| .exit i=>if i=0 then .fa p 3 λ_ e1=>.fl e1 0 λ_ e2=>.ln [e2] λe3=>.make 3 48 [I 0,S [],.slnil] e3 e3 λe4=>.cells 1 e4 λe5=>.fa p 3 λ_ e6=>.fl e6 0 λ_ e7=>.mem (.copy 3) [g e5 0,e7] λ_=>.ln [g e5 0] λe8=>.loop 12 [I 0] (λe9=>.il [g e9 0,e8] λf0=>.AJ f0 (.ea 3 [g e5 0,g e9 0] λf1=>.fl f1 2 λ_ f2=>.call 100054 [f2] λf3=>.ea 3 [g e5 0,g e9 0] λf4=>.op (.Ec 2) [f4] λf5=>.store 1 f5 f3 (.ia [g e9 0,I 1] λf6=>.rn [f6])) (.rx 2 [g e9 0])) (lx 2 (λf7=>.cells 13 (.agg [g e0 0,g e0 1,g e0 2,g e0 3,g e5 0,g e0 5,g e0 6,g e0 7,g e0 8,g e0 9,g e0 10,g e0 11,g e0 12]) λf8=>.rr [Ts f8]) λf7=>.rr [.agg [I 0,I 0,.slnil,.slnil,.slnil,I 0,I 0,ff,ff,S [],ff,I 0,ff]]) else .fail| .ret=>.rr [.agg [I 0,I 0,.slnil,.slnil,.slnil,I 0,I 0,ff,ff,S [],ff,I 0,ff]]))))))))))))
theorem iX:GQ cx 100017 oX:=λ_=>by kernel_rfl
def Zb(p:Aa):IT:=
 .op (.Gp false .sl) [p,.slnil] λa=>.AJ a (.rr [.slnil]) (.op (.By 1) [] λb=>.Hw 1 8 b p λc=>.rr [c])
theorem VA:GQ cx 100053 Zb:=λ_=>by kernel_rfl
def OZ(p:Aa):IT:=
 .op (.Gp false .sl) [p,.slnil] λa=>.AJ a (.rr [.slnil]) (.op (.By 3) [] λb=>.Hw 3 40 b p λc=>.rr [c])
theorem Lj:GQ cx 100054 OZ:=λ_=>by kernel_rfl
end Go.Am
