/- Lemmas -/
import Derived.Test.YtgmhlaiafgkmeaaGreatDoorN10
import Derived.Test.YtgmhlaiafgkmeaaGreatDoorN18
set_option linter.all false
namespace Go.Am
open Go
def mP(p q r:Aa):IT:=
 .loop 2 [I 0] (λa=>.call 18 [p] λb=>.ig [b,I 1] λc=>.Ah c (.call 197 [p] λd=>.B7 q [d] λe=>.nt [e] λf=>.Ah f (.ia [g a 0,I 1] λh=>.call 112 [p] λj=>.B7 r [j] λk=>.Ah k (.rx 0 [h]) (.rn [h])) (.rx 0 [g a 0])) (.rx 0 [g a 0])) (lx 0 (λm=>.rr [g m 0]) λm=>.rr [I 0])
def XX:I9 cx 203 mP:=λ_ _ _=>by kernel_rfl
def mQ(p:Aa):IT:=
 .cells 4 p λ_=>.rr [ff]
def XY:CN cx 204 mQ:=λ_=>by kernel_rfl
def mR(p q:Aa):IT:=
 .cells 4 p λa=>.ld q λb=>.call 206 [a4 a,b] λc=>.rr [c]
def XZ:Cu cx 205 mR:=λ_ _=>by kernel_rfl
def mS(p q:Aa):IT:=
 .cells 4 p λa=>.ie [g a 1,I 1] λb=>.Ah b (.call 241 [q,g a 2] λc=>.rr [c]) (.rr [ff])
def X0:Cu cx 206 mS:=λ_ _=>by kernel_rfl
def mT(p:Aa):IT:=
 .AN p 0 λ_ _ a=>.ln [a] λb=>.loop 2 [b] (λc=>.ig [g c 0,I 0] λd=>.Ah d (.AN p 0 λ_ _ e=>.ib [g c 0,I 1] λf=>.ea 3 [e,f] λh=>.fl h 0 λ_ j=>.iq [j,I 0] λk=>.Ah k (.ib [g c 0,I 1] λm=>.rn [m]) (.rx 0 [g c 0])) (.rx 0 [g c 0])) (lx 0 (λn=>.rr [g n 0]) λn=>.rr [I 0])
def X1:CN cx 207 mT:=λ_=>by kernel_rfl
def mU(p q r:Aa):IT:=
 .cells 4 q λa=>.call 264 [] λb=>.ln [b] λc=>.loop 2 [I 0,ff,I 0] (λd=>.il [g d 2,c] λe=>.Ah e (.ea 2 [b,g d 2] λf=>.load (some 2) f λh=>.cells 2 h λj=>.op (.BD 1) [g j 0] λk=>.call 176 [a4 a,k] λm=>.Ah m (.rr [g j 1,tt,g d 2]) (.ia [g d 2,I 1] λn=>.rn [g d 0,g d 1,n])) (.rx 0 [g d 0,g d 1,g d 2])) (lx 0 (λo=>.op (.BD 1) [S [115,101,108,101,99,116]] λs=>.call 176 [a4 a,s] λu=>.Ah u (.call 265 [p,r] λw=>.rr [.tuple [w,tt]]) (.CU 200009 (.op (.BD 1) [S [116,100],S [116,104]] λy=>.call 176 [a4 a,y] λz=>.Ah z (.ig [r,I 0] λa0=>.rn [a0]) (.rn [ff])) (λx a1=>match x with| .normal=>.Ah (g a1 0) (.rr [.tuple [I 15,tt]]) (.op (.BD 1) [S ku] λa2=>.call 176 [a4 a,a2] λa5=>.Ah a5 (.AN p 6 λ_ _ a7=>.ln [a7] λa8=>.ig [a8,I 0] λb0=>.Ah b0 (.AN p 6 λ_ _ b1=>.ib [a8,I 1] λb2=>.ea 1 [b1,b2] λb3=>.ld b3 λb4=>.rr [.tuple [b4,tt]]) (.rr [.tuple [I 7,tt]])) (.CU 200016 (.op (.BD 1) [S mm] λb5=>.call 176 [a4 a,b5] λb6=>.Ah b6 (.ig [r,I 0] λb7=>.rn [b7]) (.rn [ff])) (λx b8=>match x with| .normal=>.Ah (g b8 0) (.rr [.tuple [I 4,tt]]) (.op (.BD 1) [S kz] λb9=>.call 176 [a4 a,b9] λc1=>.Ah c1 (.AN p 7 λ_ _ c2=>.ie [c2,I 0] λc4=>.Ah c4 (.rr [.tuple [I 3,tt]]) (.rr [.tuple [I 6,tt]])) (.ie [r,I 0] λc5=>.rr [.tuple [I 7,c5]]))| .exit i=>if i=2 then .ie [r,I 0] λc6=>.rr [.tuple [I 7,c6]] else .fail| .ret=>.rr [.tuple [g o 0,g o 1]])))| .exit i=>if i=2 then .ie [r,I 0] λc8=>.rr [.tuple [I 7,c8]] else .fail| .ret=>.rr [.tuple [g o 0,g o 1]]))) λo=>.rr [.tuple [g o 0,g o 1]])
def X2:I9 cx 208 mU:=λ_ _ _=>by kernel_rfl
def mV(p q r:Aa):IT:=
 .ie [p,I 2] λa=>.Ah a (.AW 179 [p,q] λb=>.rr [b]) (.iq [p,I 3] λc=>.Ah c (.rr [ff]) (.op (.str .neq) [q,S kx] λd=>.Ah d (.rr [ff]) (.call 266 [r,.func (.func 267) [] []] λe=>.ih [e,I 0] λf=>.Ah f (.ea 3 [r,e] λh=>.fl h 2 λ_ j=>.AW 190 [j,S np] λk=>.Ah k (.rr [tt]) (.ea 3 [r,e] λm=>.fl m 2 λ_ n=>.AW 190 [n,S lp] λo=>.rr [o])) (.rr [ff]))))
def X3:I9 cx 209 mV:=λ_ _ _=>by kernel_rfl
def mW(p q r u:Aa):IT:=
 .cells 12 r λa=>.call 138 [p,I 0] λb=>.op (.ext 0) [b] λc=>.op (.ext 1) [b] λd=>.B7 q [Ci a,u,c] λe=>.cells 4 e λf=>.iq [g f 0,I 0] λh=>.Ah h (.call 141 [p,g f 0,c,d] λ_=>.fa p 2 λ_ j=>.call 201 [j,a4 f] λ_=>.rr [g f 0]) (.rr [g f 0])
def X4:jA cx 210 mW:=λ_ _ _ _=>by kernel_rfl
def mX(p q:Aa):IT:=
 .cells 3 q λa=>.op (.Lh false) [p,.ptr none] λb=>.Ah b (.rr [.tuple []]) (.iq [g a 0,I 0] λc=>.CU 100011 (.Ah c (.AN p 0 λ_ _ d=>.ln [d] λe=>.ib [e,I 1] λf=>.loop 5 [I 0,I 0,f] (λh=>.call 207 [p] λj=>.ih [g h 2,j] λk=>.Ah k (.AN p 0 λ_ _ m=>.ea 3 [m,g h 2] λn=>.load (some 3) n λo=>.call 268 [o,a3 a] λs=>.CU 100032 (.Ah s (.ia [g h 1,I 1] λu=>.rn [g h 2,u]) (.rn [g h 0,g h 1])) (λx w=>match x with| .normal=>.ib [g h 2,I 1] λy=>.rn [g w 0,g w 1,y]| .exit i=>if i=1 then .ib [g h 2,I 1] λz=>.rn [g w 0,g w 1,z] else .ret (.exit i) [g w 0,g w 1,g h 2]| .ret=>.rr [g w 0,g w 1,g h 2])) (.rx 0 [g h 0,g h 1,g h 2])) (λx a0=>match x with| .normal=>.fail| .exit i=>if i=0 then .ih [g a0 1,I 3] λa1=>.CU 100037 (.Ah a1 (.AN p 0 λ_ _ a2=>.call 269 [a2,g a0 0] λa5=>.fa p 0 λ_ a7=>.store 1 a7 a5 (.rn [])) (.rn [])) (λx _=>.ret x []) else .ret (.exit i) []| .ret=>.rr [])) (.rn [])) (nx (λa8=>.AN p 0 λ_ b0 b1=>.AN p 0 λ_ b2 b3=>.ln [b3] λb4=>.call 270 [a3 a] λb5=>.ld b2 λb6=>.same b3 b6 (.ld b0 λb7=>.same b1 b7 (.call 198 [b1,b5,b4] λb8=>.fa p 0 λ_ b9=>.store 1 b9 b8 (.rr [.tuple []])))) λa8=>.rr [.tuple []]))
def X5:Cu cx 211 mX:=λ_ _=>by kernel_rfl
def mY(p q r:Aa):IT:=
 .cells 1 r λa=>.call 271 [p,q,.func (.func 272) [] [.A9 [g a 0]]] λb=>.rr [b]
def X6:I9 cx 212 mY:=λ_ _ _=>by kernel_rfl
def mZ(p:Aa):IT:=
 .call 67 [p] λa=>.nt [a] λb=>.Ah b (.op (.Bn [I 0,I 0,S [],ff] []) [] λc=>.cells 4 c λd=>.rr [a4 d]) (.fa p 2 λ_ e=>.call 197 [e] λf=>.cells 4 f λh=>.rr [a4 h])
def X7:CN cx 213 mZ:=λ_=>by kernel_rfl
def m0(p q:Aa):IT:=
 .op (.Lh false) [p,.ptr none] λa=>.Ah a (.rr [I (-1)]) (.ie [q,I 0] λb=>.Ah b (.rr [I (-1)]) (.AN p 0 λ_ _ c=>.ln [c] λd=>.ib [d,I 1] λe=>.loop 4 [I 0,e] (λf=>.ih [g f 1,I 0] λh=>.Ah h (.AN p 0 λ_ _ j=>.ea 3 [j,g f 1] λk=>.fl k 0 λ_ m=>.ie [m,q] λn=>.Ah n (.rr [g f 1,g f 1]) (.ib [g f 1,I 1] λo=>.rn [g f 0,o])) (.rx 0 [g f 0,g f 1])) (lx 0 (λs=>.rr [I (-1)]) λs=>.rr [g s 0])))
def X8:Cu cx 214 m0:=λ_ _=>by kernel_rfl
def m6(p q:Aa):IT:=
 .fa p 3 λ_ a=>.call 236 [a,q] λb=>.il [b,I 0] λc=>.Ah c (.call 93 [p,q] λ_=>.rr [ff]) (.fa p 3 λ_ d=>.fl d 0 λ_ e=>.ea 3 [e,b] λf=>.load (some 3) f λh=>.op (.Bn [I 0,S [],.slnil,I 0,I 0,I 0,I 0,S [],ff,I 0,I 0,S [],ff,I 0] [(0,3),(3,1),(4,1)]) [h,b,b] λj=>.alloc 14 j λk=>.fa k 0 λ_ m=>.fl m 0 λ_ n=>.fa p 2 λ_ o=>.call 165 [o,n] λs=>.il [s,I 0] λu=>.Ah u (.call 273 [k,p,b] λ_=>.rr [ff]) (.ie [s,I 0] λw=>.Ah w (.rr [ff]) (.fa p 2 λ_ y=>.call 240 [y,I 1,n] λz=>.nt [z] λa0=>.Ah a0 (.rr [ff]) (.fa p 2 λ_ a1=>.call 274 [a1,n] λa2=>.il [a2,I 0] λa5=>.Ah a5 (.fa p 2 λ_ a7=>.call 178 [a7,n] λ_=>.call 273 [k,p,b] λ_=>.rr [ff]) (.fa p 2 λ_ a8=>.ib [s,I 1] λb0=>.fa p 2 λ_ b1=>.call 20 [a8,b0] λb2=>.call 20 [b1,a2] λb3=>.fa k 5 λ_ b4=>.store 4 b4 b2 (.fa k 9 λ_ b5=>.store 4 b5 b3 (.fa k 9 λ_ b6=>.fl b6 0 λ_ b7=>.fa k 13 λ_ b8=>.store 1 b8 b7 (.call 275 [p,k,s,a2] λ_=>.fa k 5 λ_ b9=>.fl b9 0 λ_ c0=>.call 138 [p,c0] λc1=>.op (.ext 0) [c1] λc2=>.op (.ext 1) [c1] λc3=>.AN k 13 λ_ _ c4=>.call 141 [p,c4,c2,c3] λ_=>.fa k 0 λ_ c5=>.load (some 3) c5 λc6=>.fa k 9 λ_ c7=>.fl c7 0 λc8 c9=>.call 167 [c6] λd0=>.ld c8 λd1=>.same c9 d1 (.call 129 [p,d0,I 1,c9] λd2=>.cells 4 d2 λd3=>.AN p 0 λ_ _ d4=>.fa k 9 λ_ d5=>.fl d5 0 λ_ d6=>.call 26 [d4,d6] λd7=>.ln [d7] λd8=>.loop 25 [I 0] (λd9=>.il [g d9 0,d8] λe0=>.Ah e0 (.ea 1 [d7,g d9 0] λe1=>.ld e1 λe2=>.call 141 [p,e2,g d3 0,I 0] λ_=>.ia [g d9 0,I 1] λe3=>.rn [e3]) (.rx 0 [g d9 0])) (lx 0 (λe4=>.fa k 9 λ_ e5=>.fl e5 0 λ_ e6=>.call 141 [p,g d3 0,e6,I 0] λ_=>.AN k 3 λ_ _ e7=>.call 273 [k,p,e7] λ_=>.fa p 3 λ_ e8=>.fa k 0 λ_ e9=>.fl e9 1 λ_ f0=>.fa k 0 λ_ f1=>.fl f1 2 λ_ f2=>.op (.Bn [I 0,S [],.slnil] [(0,1),(1,1),(2,1)]) [g d3 0,f0,f2] λf3=>.AN k 4 λ_ _ f4=>.call 276 [e8,f3,f4] λ_=>.fa p 2 λ_ f5=>.call 202 [f5,n] λ_=>.fa p 2 λ_ f6=>.fa p 2 λ_ f7=>.fa k 9 λ_ f8=>.fl f8 0 λ_ f9=>.call 165 [f7,f9] λh0=>.ia [h0,I 1] λh1=>.call 277 [f6,a4 d3,h1] λ_=>.rr [tt]) λe4=>.rr [ff]))))))))))
def X9:Cu cx 215 m6:=λ_ _=>by kernel_rfl
def m7(p q:Aa):IT:=
 .call 266 [p,q] λa=>.ih [a,I 0] λb=>.rr [b]
def Ya:Cu cx 216 m7:=λ_ _=>by kernel_rfl
def m8(p q:Aa):IT:=
 .cells 3 p λa=>.ie [g a 0,I 0] λb=>.Ah b (.fl q 1 λ_ c=>.se [g a 1,c] λd=>.rr [d]) (.rr [ff])
def Yb:Cu cx 217 m8:=λ_ _=>by kernel_rfl
def m9(p q r:Aa):IT:=
 .op (.BD 1) [q] λa=>.call 55 [p,a] λb=>.iq [b,I 0] λc=>.Ah c (.rr [b]) (.call 54 [p,q] λd=>.fa d 0 λ_ e=>.fl e 0 λ_ f=>.iq [f,I 4] λh=>.Ah h (.rr [I 9]) (.call 278 [r] λj=>.op (.ext 0) [j] λk=>.op (.ext 1) [j] λm=>.nt [m] λn=>.Ah n (.rr [I 2]) (.fa d 0 λ_ o=>.op (.CS 6) [o] λs=>.store 1 s k (.rr [I 0]))))
def Yc:I9 cx 218 m9:=λ_ _ _=>by kernel_rfl
def nA(p q:Aa):IT:=
 .GO λa=>.op (.Bn [I 0,S [],S []] [(0,1),(1,1)]) [I 4,S [97,99,116,117,97,116,101]] λb=>.Dt a (S my) b (.op (.Bn [I 0,S [],S []] [(0,1),(1,1)]) [I 4,S [97,114,99,114,111,108,101]] λc=>.Dt a (S mv) c (.op (.Bn [I 0,S [],S []] [(0,1),(1,1)]) [I 4,S [104,114,101,102]] λd=>.Dt a (S ni) d (.op (.Bn [I 0,S [],S []] [(0,1),(1,1)]) [I 4,S [114,111,108,101]] λe=>.Dt a (S nj) e (.op (.Bn [I 0,S [],S []] [(0,1),(1,1)]) [I 4,S [115,104,111,119]] λf=>.Dt a (S nk) f (.op (.Bn [I 0,S [],S []] [(0,1),(1,1)]) [I 4,S mf] λh=>.Dt a (S nf) h (.op (.Bn [I 0,S [],S []] [(0,1),(1,1)]) [I 4,S ob] λj=>.Dt a (S nl) j (.op (.Bn [I 0,S [],S []] [(0,1),(1,1)]) [I 5,S [108,97,110,103]] λk=>.Dt a (S ny) k (.op (.Bn [I 0,S [],S []] [(0,1),(1,1)]) [I 5,S [115,112,97,99,101]] λm=>.Dt a (S nr) m (.op (.Bn [I 0,S [],S []] [(0,1),(1,1)]) [I 6,S nh] λn=>.Dt a (S nh) n (.op (.Bn [I 0,S [],S []] [(0,1),(1,1)]) [I 6,S [120,108,105,110,107]] λo=>.Dt a (S ng) o (.ln [q] λs=>.loop 4 [.slnil,I 0] (λu=>.il [g u 1,s] λw=>.Ah w (.ea 3 [q,g u 1] λy=>.load (some 3) y λz=>.cells 3 z λa0=>.op (.Bn [I 0,S [],S []] [(1,1),(2,1)]) [g a0 1,g a0 2] λa1=>.cells 3 a1 λa2=>.ie [p,I 2] λa5=>.CU 100036 (.Ah a5 (.AW 279 [g a0 1] λa7=>.cells 1 a7 λa8=>.rn [.agg [g a2 0,g a8 0,g a2 2]]) (.CU 200009 (.ie [p,I 3] λb0=>.Ah b0 (.se [g a0 1,S mn] λb1=>.rn [b1]) (.rn [ff])) (λx b2=>match x with| .normal=>.CU 100043 (.Ah (g b2 0) (.cells 1 (S mw) λb3=>.rn [.agg [g a2 0,g b3 0,g a2 2]]) (.rn [a3 a2])) (λx b4=>.cells 3 (g b4 0) λb5=>.ret x [a3 b5])| .exit i=>.ret (.exit i) [a3 a2]| .ret=>.rr [a3 a2]))) (λx b6=>.cells 3 (g b6 0) λb7=>match x with| .normal=>.Fy (.agg [I 0,S [],S []]) true a (g b7 1) λb8=>.op (.ext 0) [b8] λb9=>.op (.ext 1) [b8] λc0=>.cells 3 b9 λc1=>.CU 200012 (.Ah c0 (.ie [p,I 2] λc2=>.Ah c2 (.rn [tt]) (.ie [p,I 3] λc3=>.rn [c3])) (.rn [ff])) (λx c4=>match x with| .normal=>.CU 100067 (.Ah (g c4 0) (.cells 1 (g c1 0) λc5=>.cells 1 (g c1 1) λc6=>.rn [.agg [g c5 0,g c6 0,g b7 2]]) (.rn [a3 b7])) (λx c7=>.cells 3 (g c7 0) λc8=>match x with| .normal=>.op (.BD 3) [a3 c8] λc9=>.op (.append 3 40) [g u 0,c9] λd0=>.ia [g u 1,I 1] λd1=>.rn [d0,d1]| .exit i=>if i=1 then .ia [g u 1,I 1] λd2=>.rn [g u 0,d2] else .ret (.exit i) [g u 0,g u 1]| .ret=>.rr [g u 0,g u 1])| .exit i=>if i=1 then .ia [g u 1,I 1] λd3=>.rn [g u 0,d3] else .ret (.exit i) [g u 0,g u 1]| .ret=>.rr [g u 0,g u 1])| .exit i=>if i=2 then .Fy (.agg [I 0,S [],S []]) true a (g b7 1) λd4=>.op (.ext 0) [d4] λd5=>.op (.ext 1) [d4] λd6=>.cells 3 d5 λd7=>.CU 200012 (.Ah d6 (.ie [p,I 2] λd8=>.Ah d8 (.rn [tt]) (.ie [p,I 3] λd9=>.rn [d9])) (.rn [ff])) (λx e0=>match x with| .normal=>.CU 100067 (.Ah (g e0 0) (.cells 1 (g d7 0) λe1=>.cells 1 (g d7 1) λe2=>.rn [.agg [g e1 0,g e2 0,g b7 2]]) (.rn [a3 b7])) (λx e3=>.cells 3 (g e3 0) λe4=>match x with| .normal=>.op (.BD 3) [a3 e4] λe5=>.op (.append 3 40) [g u 0,e5] λe6=>.ia [g u 1,I 1] λe7=>.rn [e6,e7]| .exit i=>if i=1 then .ia [g u 1,I 1] λe8=>.rn [g u 0,e8] else .ret (.exit i) [g u 0,g u 1]| .ret=>.rr [g u 0,g u 1])| .exit i=>if i=1 then .ia [g u 1,I 1] λe9=>.rn [g u 0,e9] else .ret (.exit i) [g u 0,g u 1]| .ret=>.rr [g u 0,g u 1]) else if i=1 then .ia [g u 1,I 1] λf0=>.rn [g u 0,f0] else .ret (.exit i) [g u 0,g u 1]| .ret=>.rr [g u 0,g u 1])) (.rx 0 [g u 0,g u 1])) (lx 0 (λf1=>.rr [g f1 0]) λf1=>.rr [.slnil]))))))))))))
def Yd:Cu cx 219 nA:=λ_ _=>by kernel_rfl
def nB(p:Aa):IT:=
 .AW 280 [p,S kj] λa=>.rr [a]
def Ye:CN cx 220 nB:=λ_=>by kernel_rfl
def nC(p q r u w:Aa):IT:=
 .call 184 [p,q] λa=>.iq [a,I 0] λb=>.Ah b (.rr [.tuple [I 0,a]]) (.call 278 [w] λc=>.op (.ext 0) [c] λd=>.op (.ext 1) [c] λe=>.nt [e] λf=>.Ah f (.rr [.tuple [I 0,I 2]]) (.op (.BD 1) [r] λh=>.call 281 [h] λj=>.nt [j] λk=>.Ah k (.rr [.tuple [I 0,I 2]]) (.op (.Bn [I 0,I 0,.slnil,I 0,I 0,S [],.slnil,S [],S [],S [],ff,I 0,I 0] [(0,1),(3,1),(4,1),(5,1),(6,1)]) [I 4,q,r,u,d] λm=>.call 182 [p,m] λn=>.call 54 [p,n] λo=>.call 282 [o] λs=>.Ah s (.call 283 [p,q] λy=>.op (.Bn [I 0,I 0,.slnil,I 0,I 0,S [],.slnil,S [],S [],S [],ff,I 0,I 0] [(0,1),(12,1),(3,1)]) [I 2,n,y] λz=>.call 182 [p,z] λa0=>.call 54 [p,n] λa1=>.fa a1 0 λ_ a2=>.op (.CS 11) [a2] λa5=>.store 1 a5 a0 (.rr [.tuple [n,I 0]])) (.rr [.tuple [n,I 0]]))))
def Yf:xK cx 221 nC:=λ_ _ _ _ _=>by kernel_rfl
def nD(p q:Aa):IT:=
 .call 139 [p,q] λa=>.cells 13 a λb=>.iq [g b 11,I 0] λc=>.Ah c (.call 139 [p,g b 11] λd=>.cells 13 d λe=>.iq [g e 3,I 0] λf=>.Ah f (.rr [g e 3]) (.AN p 1 λ_ _ h=>.rr [h])) (.iq [g b 3,I 0] λj=>.Ah j (.rr [g b 3]) (.AN p 1 λ_ _ k=>.rr [k]))
def Yg:Cu cx 222 nD:=λ_ _=>by kernel_rfl
def nE(p:Aa):IT:=
 .fa p 2 λ_ a=>.fa p 2 λ_ b=>.call 199 [a,S lj] λc=>.call 199 [b,S ku] λd=>.ig [d,c] λe=>.Ah e (.fa p 2 λ_ f=>.call 20 [f,d] λh=>.op (.part 0 none) [h] λj=>.rr [.tuple [j,I 0]]) (.il [c,I 0] λk=>.Ah k (.fa p 2 λ_ m=>.call 20 [m,I 0] λn=>.op (.part 0 none) [n] λo=>.rr [.tuple [o,I 0]]) (.fa p 2 λ_ s=>.call 20 [s,c] λu=>.op (.part 0 none) [u] λw=>.AN p 0 λ_ _ y=>.call 284 [y,w] λz=>.iq [z,I 0] λa0=>.Ah a0 (.rr [.tuple [z,w]]) (.fa p 2 λ_ a1=>.ib [c,I 1] λa2=>.op (.Fe true) [a2,I 0] λa5=>.call 20 [a1,a5] λa7=>.op (.part 0 none) [a7] λa8=>.rr [.tuple [a8,I 0]])))
def Yh:CN cx 224 nE:=λ_=>by kernel_rfl
def nF(p q:Aa):IT:=
 .call 285 [p,q] λa=>.ih [a,I 0] λb=>.rr [b]
def Yi:Cu cx 225 nF:=λ_ _=>by kernel_rfl
def nG(p q:Aa):IT:=
 .ld q λa=>.call 139 [a,p] λb=>.op (.part 0 none) [b] λc=>.ie [c,I 4] λd=>.rr [d]
def Yj:Cu cx 226 nG:=λ_ _=>by kernel_rfl
def eI(p:Aa):IT:=
 .call 286 [p] λa=>.rr [a]
def Ru:CN cx 227 eI:=λ_=>by kernel_rfl
def nH(p q:Aa):IT:=
 .ld q λa=>.B7 a [p] λ_=>.rr [ff]
def Yk:Cu cx 228 nH:=λ_ _=>by kernel_rfl
def nI(p:Aa):IT:=
 .lt [p] λa=>.ie [a,I 2] λb=>.Ah b (.op .KT [p,I 0] λc=>.ie [c,.int .u8 104] λd=>.Ah d (.op .KT [p,I 1] λe=>.ih [e,.int .u8 49] λf=>.Ah f (.op .KT [p,I 1] λh=>.ik [h,.int .u8 54] λj=>.rr [j]) (.rr [ff])) (.rr [ff])) (.rr [ff])
def Yl:CN cx 229 nI:=λ_=>by kernel_rfl
def nJ(p:Aa):IT:=
 .cells 12 p λa=>.ln [g a 8] λb=>.loop 2 [ff,I 0] (λc=>.il [g c 1,b] λd=>.Ah d (.ea 3 [g a 8,g c 1] λe=>.load (some 3) e λf=>.cells 3 f λh=>.se [g h 1,S ob] λj=>.Ah j (.AW 190 [g h 2,S [104,105,100,100,101,110]] λk=>.rr [k,g c 1]) (.ia [g c 1,I 1] λm=>.rn [g c 0,m])) (.rx 0 [g c 0,g c 1])) (lx 0 (λn=>.rr [ff]) λn=>.rr [g n 0])
def Ym:CN cx 230 nJ:=λ_=>by kernel_rfl
def nK(p q:Aa):IT:=
 .AN p 0 λ_ _ a=>.fa a 2 λ_ b=>.op (.BD 1) [q] λc=>.call 212 [b,I 1,c] λd=>.rr [d]
def Yn:Cu cx 231 nK:=λ_ _=>by kernel_rfl
def nL(p q r:Aa):IT:=
 .AN p 0 λ_ _ a=>.fa a 2 λ_ b=>.call 177 [b,r] λ_=>.AN p 0 λ_ _ c=>.fa c 2 λ_ d=>.op (.BD 1) [q] λe=>.call 118 [d,e] λ_=>.rr [.tuple []]
def Yo:I9 cx 232 nL:=λ_ _ _=>by kernel_rfl
def nM(p q:Aa):IT:=
 .cells 4 p λa=>.ie [g a 1,I 1] λb=>.Ah b (.se [g a 2,q] λc=>.rr [c]) (.rr [ff])
def Yp:Cu cx 233 nM:=λ_ _=>by kernel_rfl
def nN(p:Aa):IT:=
 .AN p 0 λ_ _ a=>.fa a 2 λ_ b=>.call 20 [b,I 1] λc=>.cells 4 c λd=>.AN p 0 λ_ _ e=>.fa e 2 λ_ f=>.call 18 [f] λh=>.ih [h,I 2] λj=>.Ah j (.call 233 [a4 d,S m_] λk=>.rr [.tuple [g d 0,k]]) (.rr [.tuple [g d 0,ff]])
def Yq:CN cx 234 nN:=λ_=>by kernel_rfl
def nO(p q:Aa):IT:=
 .op (.BD 1) [q] λa=>.call 55 [p,a] λb=>.iq [b,I 0] λc=>.Ah c (.rr [b]) (.call 187 [p,q] λ_=>.rr [I 0])
def Yr:Cu cx 235 nO:=λ_ _=>by kernel_rfl
def nQ(p q:Aa):IT:=
 .op (.Lh false) [p,.ptr none] λa=>.Ah a (.rr [I (-1)]) (.AN p 0 λ_ _ b=>.ln [b] λc=>.ib [c,I 1] λd=>.loop 4 [I 0,d] (λe=>.ih [g e 1,I 0] λf=>.Ah f (.AN p 0 λ_ _ h=>.ea 3 [h,g e 1] λj=>.fl j 0 λ_ k=>.iq [k,I 0] λm=>.Ah m (.AN p 0 λ_ _ n=>.ea 3 [n,g e 1] λo=>.fl o 1 λ_ s=>.se [s,q] λu=>.Ah u (.rr [g e 1,g e 1]) (.ib [g e 1,I 1] λw=>.rn [g e 0,w])) (.rx 0 [g e 0,g e 1])) (.rx 0 [g e 0,g e 1])) (lx 0 (λy=>.rr [I (-1)]) λy=>.rr [g y 0]))
def Ys:Cu cx 236 nQ:=λ_ _=>by kernel_rfl
def nR(p q:Aa):IT:=
 .call 214 [p,q] λa=>.il [a,I 0] λb=>.Ah b (.rr [ff]) (.AN p 0 λ_ _ c=>.call 269 [c,a] λd=>.fa p 0 λ_ e=>.store 1 e d (.rr [tt]))
def Yt:Cu cx 237 nR:=λ_ _=>by kernel_rfl
def nS(p q:Aa):IT:=
 .call 18 [p] λa=>.ib [a,I 1] λb=>.loop 2 [I 0,b] (λc=>.ih [g c 1,I 0] λd=>.Ah d (.AN p 0 λ_ _ e=>.ea 4 [e,g c 1] λf=>.load (some 4) f λh=>.B7 q [h] λj=>.Ah j (.rr [g c 1,g c 1]) (.ib [g c 1,I 1] λk=>.rn [g c 0,k])) (.rx 0 [g c 0,g c 1])) (lx 0 (λm=>.rr [I (-1)]) λm=>.rr [g m 0])
def Yu:Cu cx 238 nS:=λ_ _=>by kernel_rfl
def nT(p q:Aa):IT:=
 .cells 4 p λa=>.ld q λb=>.ie [g a 0,b] λc=>.rr [c]
def Yv:Cu cx 239 nT:=λ_ _=>by kernel_rfl
def nU(p q r:Aa):IT:=
 .cells 1 r λa=>.call 271 [p,q,.func (.func 287) [] [.A9 [g a 0]]] λb=>.rr [b]
def Yw:I9 cx 240 nU:=λ_ _ _=>by kernel_rfl
def eJ(p q:Aa):IT:=
 .call 288 [p,q] λa=>.ih [a,I 0] λb=>.rr [b]
def Rv:Cu cx 241 eJ:=λ_ _=>by kernel_rfl
def nV(p q:Aa):IT:=
 .cells 4 p λa=>.iq [g a 1,I 1] λb=>.Ah b (.rr [tt]) (.AW 243 [g a 2] λc=>.nt [c] λd=>.Ah d (.rr [tt]) (.ld q λe=>.se [g a 2,e] λf=>.rr [f]))
def Yx:Cu cx 242 nV:=λ_ _=>by kernel_rfl
def eK(p:Aa):IT:=
 .se [p,S [100,100]] λa=>.Ah a (.rr [tt]) (.se [p,S [100,116]] λb=>.Ah b (.rr [tt]) (.se [p,S [108,105]] λc=>.Ah c (.rr [tt]) (.se [p,S mb] λd=>.Ah d (.rr [tt]) (.se [p,S mh] λe=>.Ah e (.rr [tt]) (.se [p,S [112]] λf=>.Ah f (.rr [tt]) (.se [p,S [114,98]] λh=>.Ah h (.rr [tt]) (.se [p,S [114,112]] λj=>.Ah j (.rr [tt]) (.se [p,S [114,116]] λk=>.Ah k (.rr [tt]) (.se [p,S oc] λm=>.Ah m (.rr [tt]) (.rr [ff]))))))))))
def Rw:CN cx 243 eK:=λ_=>by kernel_rfl
def nW(p q:Aa):IT:=
 .cells 4 p λa=>.ld q λb=>.ie [g a 0,b] λc=>.rr [c]
def Yy:Cu cx 244 nW:=λ_ _=>by kernel_rfl
def eL(p q:Aa):IT:=
 .ie [p,I 3] λa=>.Ah a (.se [q,S [109,105]] λb=>.Ah b (.rr [tt]) (.se [q,S [109,110]] λc=>.Ah c (.rr [tt]) (.se [q,S [109,111]] λd=>.Ah d (.rr [tt]) (.se [q,S [109,115]] λe=>.Ah e (.rr [tt]) (.se [q,S [109,116,101,120,116]] λf=>.rr [f]))))) (.rr [ff])
def Rx:Cu cx 245 eL:=λ_ _=>by kernel_rfl
def eM(p:Aa):IT:=
 .cells 1 p λa=>.rr [.func (.func 296) [] [.A9 [g a 0]]]
def Ry:CN cx 250 eM:=λ_=>by kernel_rfl
def eN(p q:Aa):IT:=
 .cells 1 p λa=>.cells 1 q λb=>.rr [.func (.func 297) [] [.A9 [g a 0],.A9 [g b 0]]]
def Rz:Cu cx 251 eN:=λ_ _=>by kernel_rfl
def nX(p q r:Aa):IT:=
 .ln [p] λa=>.mem (.S7 1) [p,q,r,a] λ_=>.ie [q,r] λb=>.Ah b (.rr [p]) (.ln [p] λc=>.op (.Ku 1 false false true) [p,q] λd=>.op (.Ku 1 false true false) [p,r] λe=>.Dm 1 8 d e λf=>.ln [f] λh=>.mem (.Vr 1 true true) [f,h,c] λj=>.mem (.clear 1 [I 0]) [j] λ_=>.rr [f])
def Yz:I9 cx 253 nX:=λ_ _ _=>by kernel_rfl
def nY(p:Aa):IT:=
 .B8 p λa=>.ln [a] λb=>.loop 3 [I 0] (λc=>.il [g c 0,b] λd=>.Ah d (.ea 1 [a,g c 0] λe=>.ld e λf=>.op (.conv .i32) [f] λh=>.AW 300 [h] λj=>.Ah j (.ib [f,.int .u8 65] λk=>.ia [k,.int .u8 97] λm=>.ea 1 [a,g c 0] λn=>.store 1 n m (.ia [g c 0,I 1] λo=>.rn [o])) (.ia [g c 0,I 1] λs=>.rn [s])) (.rx 0 [g c 0])) (lx 0 (λu=>.Mn a λw=>.op .Oa [w] λy=>.rr [y]) λu=>.rr [S []])
def YA:CN cx 256 nY:=λ_=>by kernel_rfl
def nZ(p q:Aa):IT:=
 .ln [p] λa=>.loop 2 [I 0,I 0] (λb=>.il [g b 1,a] λc=>.Ah c (.ea 1 [p,g b 1] λd=>.ld d λe=>.B7 q [e] λf=>.Ah f (.rr [g b 1,g b 1]) (.ia [g b 1,I 1] λh=>.rn [g b 0,h])) (.rx 0 [g b 0,g b 1])) (lx 0 (λj=>.rr [I (-1)]) λj=>.rr [g j 0])
def YB:Cu cx 257 nZ:=λ_ _=>by kernel_rfl
def n0(p q:Aa):IT:=
 .op (.conv .u32) [q] λa=>.ik [a,.int .u32 2047] λb=>.Ah b (.op (.int .shr) [q,.int .u64 6] λc=>.op (.conv .u8) [c] λd=>.op (.int .or) [.int .u8 192,d] λe=>.op (.conv .u8) [q] λf=>.op (.int .and) [f,.int .u8 63] λh=>.op (.int .or) [.int .u8 128,h] λj=>.op (.BD 1) [e,j] λk=>.Dm 1 1 p k λm=>.rr [m]) (.il [a,.int .u32 55296] λn=>.Ah n (.op (.int .shr) [q,.int .u64 12] λo=>.op (.conv .u8) [o] λs=>.op (.int .or) [.int .u8 224,s] λu=>.op (.int .shr) [q,.int .u64 6] λw=>.op (.conv .u8) [w] λy=>.op (.int .and) [y,.int .u8 63] λz=>.op (.int .or) [.int .u8 128,z] λa0=>.op (.conv .u8) [q] λa1=>.op (.int .and) [a1,.int .u8 63] λa2=>.op (.int .or) [.int .u8 128,a2] λa5=>.op (.BD 1) [u,a0,a5] λa7=>.Dm 1 1 p a7 λa8=>.rr [a8]) (.il [.int .u32 57343,a] λb0=>.Ah b0 (.ik [a,.int .u32 65535] λb1=>.Ah b1 (.op (.int .shr) [q,.int .u64 12] λb2=>.op (.conv .u8) [b2] λb3=>.op (.int .or) [.int .u8 224,b3] λb4=>.op (.int .shr) [q,.int .u64 6] λb5=>.op (.conv .u8) [b5] λb6=>.op (.int .and) [b6,.int .u8 63] λb7=>.op (.int .or) [.int .u8 128,b7] λb8=>.op (.conv .u8) [q] λb9=>.op (.int .and) [b9,.int .u8 63] λc0=>.op (.int .or) [.int .u8 128,c0] λc1=>.op (.BD 1) [b4,b8,c1] λc2=>.Dm 1 1 p c2 λc3=>.rr [c3]) (.ig [a,.int .u32 65535] λc4=>.Ah c4 (.ik [a,.int .u32 1114111] λc5=>.Ah c5 (.op (.int .shr) [q,.int .u64 18] λc6=>.op (.conv .u8) [c6] λc7=>.op (.int .or) [.int .u8 240,c7] λc8=>.op (.int .shr) [q,.int .u64 12] λc9=>.op (.conv .u8) [c9] λd0=>.op (.int .and) [d0,.int .u8 63] λd1=>.op (.int .or) [.int .u8 128,d1] λd2=>.op (.int .shr) [q,.int .u64 6] λd3=>.op (.conv .u8) [d3] λd4=>.op (.int .and) [d4,.int .u8 63] λd5=>.op (.int .or) [.int .u8 128,d5] λd6=>.op (.conv .u8) [q] λd7=>.op (.int .and) [d7,.int .u8 63] λd8=>.op (.int .or) [.int .u8 128,d8] λd9=>.op (.BD 1) [c8,d2,d6,d9] λe0=>.Dm 1 1 p e0 λe1=>.rr [e1]) (.op (.BD 1) [.int .u8 239,.int .u8 191,.int .u8 189] λe2=>.Dm 1 1 p e2 λe3=>.rr [e3])) (.op (.BD 1) [.int .u8 239,.int .u8 191,.int .u8 189] λe4=>.Dm 1 1 p e4 λe5=>.rr [e5]))) (.ig [a,.int .u32 65535] λe6=>.Ah e6 (.ik [a,.int .u32 1114111] λe7=>.Ah e7 (.op (.int .shr) [q,.int .u64 18] λe8=>.op (.conv .u8) [e8] λe9=>.op (.int .or) [.int .u8 240,e9] λf0=>.op (.int .shr) [q,.int .u64 12] λf1=>.op (.conv .u8) [f1] λf2=>.op (.int .and) [f2,.int .u8 63] λf3=>.op (.int .or) [.int .u8 128,f3] λf4=>.op (.int .shr) [q,.int .u64 6] λf5=>.op (.conv .u8) [f5] λf6=>.op (.int .and) [f6,.int .u8 63] λf7=>.op (.int .or) [.int .u8 128,f7] λf8=>.op (.conv .u8) [q] λf9=>.op (.int .and) [f9,.int .u8 63] λh0=>.op (.int .or) [.int .u8 128,h0] λh1=>.op (.BD 1) [f0,f4,f8,h1] λh2=>.Dm 1 1 p h2 λh3=>.rr [h3]) (.op (.BD 1) [.int .u8 239,.int .u8 191,.int .u8 189] λh4=>.Dm 1 1 p h4 λh5=>.rr [h5])) (.op (.BD 1) [.int .u8 239,.int .u8 191,.int .u8 189] λh6=>.Dm 1 1 p h6 λh7=>.rr [h7]))))
def YC:Cu cx 258 n0:=λ_ _=>by kernel_rfl
def n7(p q:Aa):IT:=
 .cells 4 p λa=>.ld q λb=>.op (.BD 1) [b] λc=>.call 206 [a4 a,c] λd=>.rr [d]
def YD:Cu cx 259 n7:=λ_ _=>by kernel_rfl
def n8(p:Aa):IT:=
 .cells 4 p λa=>.iq [g a 1,I 1] λb=>.Ah b (.rr [tt]) (.AW 261 [g a 2] λc=>.nt [c] λd=>.rr [d])
def YE:CN cx 260 n8:=λ_=>by kernel_rfl
def eO(p:Aa):IT:=
 .se [p,S ma] λa=>.Ah a (.rr [tt]) (.se [p,S mz] λb=>.Ah b (.rr [tt]) (.se [p,S mq] λc=>.Ah c (.rr [tt]) (.se [p,S [116,100]] λd=>.Ah d (.rr [tt]) (.se [p,S mo] λe=>.Ah e (.rr [tt]) (.se [p,S [116,104]] λf=>.Ah f (.rr [tt]) (.se [p,S mr] λh=>.Ah h (.rr [tt]) (.se [p,S [116,114]] λj=>.Ah j (.rr [tt]) (.AW 243 [p] λk=>.rr [k]))))))))
def RA:CN cx 261 eO:=λ_=>by kernel_rfl
def n9(p q r:Aa):IT:=
 .cells 4 q λa=>.op (.Ku 4 false false true) [p,r] λb=>.op (.append 4 40) [.slnil,b] λc=>.op (.BD 4) [a4 a] λd=>.op (.append 4 40) [c,d] λe=>.op (.Ku 4 false true false) [p,r] λf=>.op (.append 4 40) [e,f] λh=>.rr [h]
def YF:I9 cx 262 n9:=λ_ _ _=>by kernel_rfl
def oA(p q:Aa):IT:=
 .op (.Ku 4 false false true) [p,q] λa=>.op (.append 4 40) [.slnil,a] λb=>.ia [q,I 1] λc=>.op (.Ku 4 false true false) [p,c] λd=>.op (.append 4 40) [b,d] λe=>.rr [e]
def YG:Cu cx 263 oA:=λ_ _=>by kernel_rfl
def oB:IT:=
 .op (.Bn [S [],I 0] [(0,1),(1,1)]) [S [116,114],I 14] λa=>.op (.Bn [S [],I 0] [(0,1),(1,1)]) [S mq,I 13] λb=>.op (.Bn [S [],I 0] [(0,1),(1,1)]) [S mr,I 13] λc=>.op (.Bn [S [],I 0] [(0,1),(1,1)]) [S mo,I 13] λd=>.op (.Bn [S [],I 0] [(0,1),(1,1)]) [S ma,I 11] λe=>.op (.Bn [S [],I 0] [(0,1),(1,1)]) [S mz,I 12] λf=>.op (.Bn [S [],I 0] [(0,1),(1,1)]) [S lj,I 9] λh=>.op (.Bn [S [],I 0] [(0,1),(1,1)]) [S m_,I 7] λj=>.op (.Bn [S [],I 0] [(0,1),(1,1)]) [S nc,I 20] λk=>.op (.BD 2) [a,b,c,d,e,f,h,j,k] λm=>.rr [m]
def YH:AH cx 264 []=oB:=by kernel_rfl
def oC(p q:Aa):IT:=
 .ib [q,I 1] λa=>.loop 2 [I 0,a] (λb=>.ih [g b 1,I 0] λc=>.Ah c (.fa p 2 λ_ d=>.call 20 [d,g b 1] λe=>.op (.BD 1) [S ku] λf=>.call 176 [e,f] λh=>.Ah h (.rx 0 [g b 0,g b 1]) (.fa p 2 λ_ j=>.call 20 [j,g b 1] λk=>.op (.BD 1) [S lj] λm=>.call 176 [k,m] λn=>.Ah n (.rr [I 17,g b 1]) (.ib [g b 1,I 1] λo=>.rn [g b 0,o]))) (.rx 0 [g b 0,g b 1])) (lx 0 (λs=>.rr [I 16]) λs=>.rr [g s 0])
def YI:Cu cx 265 oC:=λ_ _=>by kernel_rfl
def oD(p q:Aa):IT:=
 .ln [p] λa=>.loop 2 [I 0,I 0] (λb=>.il [g b 1,a] λc=>.Ah c (.ea 3 [p,g b 1] λd=>.load (some 3) d λe=>.B7 q [e] λf=>.Ah f (.rr [g b 1,g b 1]) (.ia [g b 1,I 1] λh=>.rn [g b 0,h])) (.rx 0 [g b 0,g b 1])) (lx 0 (λj=>.rr [I (-1)]) λj=>.rr [g j 0])
def YJ:Cu cx 266 oD:=λ_ _=>by kernel_rfl
def oE(p:Aa):IT:=
 .cells 3 p λa=>.ie [g a 0,I 0] λb=>.Ah b (.se [g a 1,S nv] λc=>.rr [c]) (.rr [ff])
def YK:CN cx 267 oE:=λ_=>by kernel_rfl
def oF(p q:Aa):IT:=
 .cells 3 p λa=>.cells 3 q λb=>.se [g a 1,g b 1] λc=>.Ah c (.ln [g a 2] λd=>.ln [g b 2] λe=>.ie [d,e] λf=>.Ah f (.B7 (.func (.func 301) [] []) [g a 2,g b 2] λh=>.Ah h (.B7 (.func (.func 301) [] []) [g b 2,g a 2] λj=>.rr [j]) (.rr [ff])) (.rr [ff])) (.rr [ff])
def YL:Cu cx 268 oF:=λ_ _=>by kernel_rfl
def oG(p q:Aa):IT:=
 .op (.Ku 3 false false true) [p,q] λa=>.op (.append 3 48) [.slnil,a] λb=>.ia [q,I 1] λc=>.op (.Ku 3 false true false) [p,c] λd=>.op (.append 3 48) [b,d] λe=>.rr [e]
def YM:Cu cx 269 oG:=λ_ _=>by kernel_rfl
def oH(p:Aa):IT:=
 .cells 3 p λa=>.call 69 [g a 2] λb=>.cells 1 b λc=>.cells 3 (.agg [g a 0,g a 1,g c 0]) λd=>.rr [a3 d]
def YN:CN cx 270 oH:=λ_=>by kernel_rfl
def oI(p q r:Aa):IT:=
 .cells 1 r λa=>.call 304 [q] λb=>.cells 1 b λc=>.call 238 [p,.func (.func 305) [] [.A9 [g a 0],.A9 [g c 0]]] λd=>.ih [d,I 0] λe=>.Ah e (.ld (.A9 [g a 0]) λf=>.AN p 0 λ_ _ h=>.ea 4 [h,d] λj=>.load (some 4) j λk=>.B7 f [k] λm=>.rr [m]) (.rr [ff])
def YO:I9 cx 271 oI:=λ_ _ _=>by kernel_rfl
def oJ(p q:Aa):IT:=
 .cells 4 p λa=>.ld q λb=>.call 206 [a4 a,b] λc=>.rr [c]
def YP:Cu cx 272 oJ:=λ_ _=>by kernel_rfl
def oK(p q r:Aa):IT:=
 .fa q 3 λ_ a=>.fl a 0 λ_ b=>.call 166 [b] λc=>.ia [r,I 1] λd=>.call 306 [c,r,d] λe=>.fa q 3 λ_ f=>.op (.CS 0) [f] λh=>.store 1 h e (.AN p 3 λ_ _ j=>.il [r,j] λk=>.Ah k (.AN p 3 λ_ _ m=>.ib [m,I 1] λn=>.fa p 3 λ_ o=>.store 1 o n (.AN p 4 λ_ _ s=>.il [r,s] λu=>.Ah u (.AN p 4 λ_ _ w=>.ib [w,I 1] λy=>.fa p 4 λ_ z=>.store 1 z y (.DJ 3 q (.rr [.tuple []]))) (.DJ 3 q (.rr [.tuple []])))) (.AN p 4 λ_ _ a0=>.il [r,a0] λa1=>.Ah a1 (.AN p 4 λ_ _ a2=>.ib [a2,I 1] λa5=>.fa p 4 λ_ a7=>.store 1 a7 a5 (.DJ 3 q (.rr [.tuple []]))) (.DJ 3 q (.rr [.tuple []]))))
def YQ:I9 cx 273 oK:=λ_ _ _=>by kernel_rfl
def oL(p q:Aa):IT:=
 .call 165 [p,q] λa=>.ia [a,I 1] λb=>.loop 3 [I 0,b] (λc=>.ih [a,I 0] λd=>.Ah d (.call 18 [p] λe=>.il [g c 1,e] λf=>.Ah f (.AN p 0 λ_ _ h=>.ea 4 [h,g c 1] λj=>.fl j 1 λ_ k=>.AN p 0 λ_ _ m=>.ea 4 [m,g c 1] λn=>.fl n 2 λ_ o=>.AW 179 [k,o] λs=>.Ah s (.rr [g c 1,g c 1]) (.ia [g c 1,I 1] λu=>.rn [g c 0,u])) (.rx 0 [g c 0,g c 1])) (.rx 0 [g c 0,g c 1])) (lx 0 (λw=>.rr [I (-1)]) λw=>.rr [g w 0])
def YR:Cu cx 274 oL:=λ_ _=>by kernel_rfl
def oM(p q r u:Aa):IT:=
 .ib [u,I 1] λa=>.loop 2 [I 0,a] (λb=>.ig [g b 1,r] λc=>.Ah c (.fa p 2 λ_ d=>.call 20 [d,g b 1] λe=>.cells 4 e λf=>.ia [g b 0,I 1] λh=>.fa p 3 λ_ j=>.call 214 [j,g f 0] λk=>.CU 200007 (.ig [h,I 3] λm=>.Ah m (.ih [k,I 0] λn=>.rn [n]) (.rn [ff])) (λx o=>match x with| .normal=>.CU 100039 (.Ah (g o 0) (.call 273 [q,p,k] λ_=>.fa p 3 λ_ s=>.call 214 [s,g f 0] λw=>.rn [w]) (.rn [k])) (λx y=>match x with| .normal=>.il [g y 0,I 0] λz=>.Ah z (.fa p 2 λ_ a0=>.call 202 [a0,g f 0] λ_=>.ib [g b 1,I 1] λa1=>.rn [h,a1]) (.fa p 3 λ_ a2=>.fl a2 0 λ_ a5=>.ea 3 [a5,g y 0] λa7=>.load (some 3) a7 λa8=>.cells 3 a8 λb0=>.fa q 5 λ_ b1=>.fl b1 0 λb2 b3=>.call 167 [a3 b0] λb4=>.ld b2 λb5=>.same b3 b5 (.call 129 [p,b4,I 1,b3] λb6=>.cells 4 b6 λb7=>.fa p 2 λ_ b8=>.call 307 [b8,g f 0,a4 b7] λ_=>.fa p 3 λ_ b9=>.op (.Bn [I 0,S [],.slnil] [(0,1),(1,1),(2,1)]) [g b7 0,g b0 1,g b0 2] λc0=>.call 308 [b9,g f 0,c0] λ_=>.AN q 13 λ_ _ c2=>.fa q 9 λ_ c3=>.fl c3 0 λ_ c4=>.ie [c2,c4] λc5=>.CU 100104 (.Ah c5 (.ia [g y 0,I 1] λc7=>.fa q 4 λ_ c8=>.store 1 c8 c7 (.rn [])) (.rn [])) (λx _=>match x with| .normal=>.AN q 13 λ_ _ c9=>.call 141 [p,c9,g b7 0,I 0] λ_=>.fa q 13 λ_ d0=>.store 1 d0 (g b7 0) (.ib [g b 1,I 1] λd1=>.rn [h,d1])| .exit i=>if i=1 then .ib [g b 1,I 1] λd2=>.rn [h,d2] else .ret (.exit i) [h,g b 1]| .ret=>.rr [h,g b 1])))| .exit i=>if i=1 then .ib [g b 1,I 1] λd3=>.rn [h,d3] else .ret (.exit i) [h,g b 1]| .ret=>.rr [h,g b 1])| .exit i=>if i=1 then .ib [g b 1,I 1] λd4=>.rn [h,d4] else .ret (.exit i) [h,g b 1]| .ret=>.rr [h,g b 1])) (.rx 0 [g b 0,g b 1])) (lx 0 (λd5=>.rr [.tuple []]) λd5=>.rr [.tuple []])
def YS:jA cx 275 oM:=λ_ _ _ _=>by kernel_rfl
def oN(p q r:Aa):IT:=
 .cells 3 q λa=>.op (.Lh true) [p,.ptr none] λb=>.Ah b (.AN p 0 λ_ c d=>.op (.Fe true) [r,I 0] λe=>.AN p 0 λ_ f h=>.ln [h] λj=>.op (.Fe false) [e,j] λk=>.call 270 [a3 a] λm=>.ld f λn=>.same h n (.ld c λo=>.same d o (.call 198 [d,m,k] λs=>.fa p 0 λ_ u=>.store 1 u s (.rr [.tuple []])))) (.rr [.tuple []])
def YT:I9 cx 276 oN:=λ_ _ _=>by kernel_rfl
def oO(p q r:Aa):IT:=
 .cells 4 q λa=>.op (.Lh true) [p,.ptr none] λb=>.Ah b (.AN p 0 λ_ _ c=>.op (.Fe true) [r,I 1] λd=>.AN p 0 λ_ _ e=>.ln [e] λf=>.op (.Fe false) [d,f] λh=>.call 262 [c,a4 a,h] λj=>.fa p 0 λ_ k=>.store 1 k j (.rr [.tuple []])) (.rr [.tuple []])
def YU:I9 cx 277 oO:=λ_ _ _=>by kernel_rfl
def oP(p:Aa):IT:=
 .ln [p] λa=>.loop 3 [.slnil,ff,.slnil,I 0] (λb=>.il [g b 3,a] λc=>.Ah c (.ea 3 [p,g b 3] λd=>.load (some 3) d λe=>.cells 3 e λf=>.op (.BD 1) [g f 0] λh=>.call 281 [h] λj=>.nt [j] λk=>.Ah k (.rr [.slnil,ff,g b 2,g b 3]) (.call 216 [g b 2,.func (.func 309) [] [.A9 [g f 0,g f 1,g f 2]]] λm=>.nt [m] λn=>.Ah n (.load (some 3) (.A9 [g f 0,g f 1,g f 2]) λo=>.op (.BD 3) [o] λs=>.op (.append 3 40) [g b 2,s] λu=>.ia [g b 3,I 1] λw=>.rn [g b 0,g b 1,u,w]) (.ia [g b 3,I 1] λy=>.rn [g b 0,g b 1,g b 2,y]))) (.rx 0 [g b 0,g b 1,g b 2,g b 3])) (lx 0 (λz=>.rr [.tuple [g z 2,tt]]) λz=>.rr [.tuple [g z 0,g z 1]])
def YV:CN cx 278 oP:=λ_=>by kernel_rfl
def oQ(p:Aa):IT:=
 .AW 280 [p,S ki] λa=>.rr [a]
def YW:CN cx 279 oQ:=λ_=>by kernel_rfl
def oR(p q:Aa):IT:=
 .call 286 [q] λa=>.ln [a] λb=>.loop 2 [S [],I 0] (λc=>.il [g c 1,b] λd=>.Ah d (.ea 1 [a,g c 1] λe=>.ld e λf=>.AW 256 [f] λh=>.se [h,p] λj=>.Ah j (.rr [f,g c 1]) (.ia [g c 1,I 1] λk=>.rn [g c 0,k])) (.rx 0 [g c 0,g c 1])) (lx 0 (λm=>.rr [p]) λm=>.rr [g m 0])
def YX:Cu cx 280 oR:=λ_ _=>by kernel_rfl
def oS(p:Aa):IT:=
 .ln [p] λa=>.loop 2 [ff,I 0] (λb=>.il [g b 1,a] λc=>.Ah c (.ea 1 [p,g b 1] λd=>.ld d λe=>.il [e,I 0] λf=>.Ah f (.rr [ff,g b 1]) (.ig [e,I 7] λh=>.Ah h (.rr [ff,g b 1]) (.ia [g b 1,I 1] λj=>.rn [g b 0,j]))) (.rx 0 [g b 0,g b 1])) (lx 0 (λk=>.rr [tt]) λk=>.rr [g k 0])
def YY:CN cx 281 oS:=λ_=>by kernel_rfl
def oT(p:Aa):IT:=
 .fa p 0 λ_ a=>.fl a 0 λ_ b=>.ie [b,I 4] λc=>.Ah c (.fa p 0 λ_ d=>.fl d 4 λ_ e=>.ie [e,I 1] λf=>.Ah f (.fa p 0 λ_ h=>.fl h 5 λ_ j=>.se [j,S ku] λk=>.rr [k]) (.rr [ff])) (.rr [ff])
def YZ:CN cx 282 oT:=λ_=>by kernel_rfl
def oU(p q:Aa):IT:=
 .AN p 1 λ_ _ a=>.mem (.Vs i0 true) [a,q] λb=>.op (.ext 0) [b] λc=>.op (.ext 1) [b] λd=>.Ah d (.rr [c]) (.call 97 [p,ff] λe=>.AN p 1 λ_ _ f=>.op (.FZ false .mp) [f,.map none] λh=>.Ah h (.GO λj=>.fa p 1 λ_ k=>.store 1 k j (.AN p 1 λ_ _ m=>.AN p 1 λ_ _ n=>.mem (.JT i0) [m,q] λo=>.op (.ext 1) [o] λs=>.mem .GL [m,s,e] λ_=>.mem (.JT i0) [n,e] λu=>.op (.ext 1) [u] λw=>.mem .GL [n,w,e] λ_=>.rr [e])) (.AN p 1 λ_ _ y=>.AN p 1 λ_ _ z=>.mem (.JT i0) [y,q] λa0=>.op (.ext 1) [a0] λa1=>.mem .GL [y,a1,e] λ_=>.mem (.JT i0) [z,e] λa2=>.op (.ext 1) [a2] λa5=>.mem .GL [z,a5,e] λ_=>.rr [e]))
def Y0:Cu cx 283 oU:=λ_ _=>by kernel_rfl
def oV(p q:Aa):IT:=
 .call 52 [p,q] λa=>.nt [a] λb=>.Ah b (.rr [I 0]) (.call 54 [p,q] λc=>.fa c 0 λ_ d=>.fl d 1 λ_ e=>.rr [e])
def Y1:Cu cx 284 oV:=λ_ _=>by kernel_rfl
def oW(p q:Aa):IT:=
 .ln [p] λa=>.loop 2 [I 0,I 0] (λb=>.il [g b 1,a] λc=>.Ah c (.ea 1 [p,g b 1] λd=>.ld d λe=>.B7 q [e] λf=>.Ah f (.rr [g b 1,g b 1]) (.ia [g b 1,I 1] λh=>.rn [g b 0,h])) (.rx 0 [g b 0,g b 1])) (lx 0 (λj=>.rr [I (-1)]) λj=>.rr [g j 0])
def Y2:Cu cx 285 oW:=λ_ _=>by kernel_rfl
def eP(p:Aa):IT:=
 .loop 5 [I 0,I 1,.int .u8 0,I 0] (λa=>.lt [p] λb=>.il [g a 3,b] λc=>.Ah c (.op .KT [p,g a 3] λd=>.op (.int .or) [g a 2,d] λe=>.op (.Kt 256 1) [.A9 C5,d] λf=>.ld f λh=>.op (.conv .i64) [h] λj=>.op (.un .xor) [j] λk=>.op (.int .and) [g a 1,k] λm=>.ia [g a 0,m] λn=>.ia [g a 3,I 1] λo=>.rn [n,j,e,o]) (.rx 0 [g a 0,g a 1,g a 2,g a 3])) (lx 0 (λs=>.ih [g s 2,.int .u8 128] λu=>.Ah u (.call 310 [p,.func (.func 311) [] []] λw=>.Mn w λy=>.rr [y]) (.make 1 16 [S []] (g s 0) (g s 0) λz=>.loop 18 [I 0] (λa0=>.lt [p] λa1=>.il [g a0 0,a1] λa2=>.Ah a2 (.op .KT [p,g a0 0] λa5=>.op (.Kt 256 1) [.A9 C5,a5] λa7=>.ld a7 λa8=>.iq [a8,.int .u8 0] λb0=>.Ah b0 (.ia [g a0 0,I 1] λb1=>.rn [b1]) (.rx 2 [g a0 0])) (.rx 2 [g a0 0])) (lx 2 (λb2=>.loop 21 [I 0,g b2 0,g b2 0] (λb3=>.lt [p] λb4=>.il [g b3 2,b4] λb5=>.Ah b5 (.op .KT [p,g b3 2] λb6=>.op (.Kt 256 1) [.A9 C5,b6] λb7=>.ld b7 λb8=>.ie [b8,.int .u8 0] λb9=>.Ah b9 (.ia [g b3 2,I 1] λc1=>.rn [g b3 0,g b3 1,c1]) (.op (.Ku 0 true true true) [p,g b3 1,g b3 2] λc2=>.ea 1 [z,g b3 0] λc3=>.store 1 c3 c2 (.ia [g b3 0,I 1] λc4=>.ia [g b3 2,I 1] λc5=>.loop 27 [c5] (λc6=>.lt [p] λc7=>.il [g c6 0,c7] λc8=>.Ah c8 (.op .KT [p,g c6 0] λc9=>.op (.Kt 256 1) [.A9 C5,c9] λd0=>.ld d0 λd1=>.iq [d1,.int .u8 0] λd2=>.Ah d2 (.ia [g c6 0,I 1] λd3=>.rn [d3]) (.rx 6 [g c6 0])) (.rx 6 [g c6 0])) (λx d4=>match x with| .normal=>.fail| .exit i=>if i=6 then .rn [c4,g d4 0,g d4 0] else if i=5 then .rn [c4,g b3 1,g d4 0] else .ret (.exit i) [c4,g b3 1,g d4 0]| .ret=>.rr [c4,g b3 1,g d4 0])))) (.rx 4 [g b3 0,g b3 1,g b3 2])) (lx 4 (λd5=>.lt [p] λd6=>.il [g d5 1,d6] λd7=>.Ah d7 (.op (.Ku 0 true true false) [p,g d5 1] λd8=>.ea 1 [z,g d5 0] λd9=>.store 1 d9 d8 (.Mn z λe0=>.rr [e0])) (.Mn z λe1=>.rr [e1])) λd5=>.Mn .slnil λe2=>.rr [e2])) λb2=>.Mn .slnil λe3=>.rr [e3]))) λs=>.Mn .slnil λe4=>.rr [e4])
def RB:CN cx 286 eP:=λ_=>by kernel_rfl
def oX(p q:Aa):IT:=
 .cells 4 p λa=>.ld q λb=>.ie [g a 0,b] λc=>.rr [c]
def Y3:Cu cx 287 oX:=λ_ _=>by kernel_rfl
def eQ(p q:Aa):IT:=
 .ln [p] λa=>.loop 2 [I 0,I 0] (λb=>.il [g b 1,a] λc=>.Ah c (.ea 1 [p,g b 1] λd=>.ld d λe=>.se [q,e] λf=>.Ah f (.rr [g b 1,g b 1]) (.ia [g b 1,I 1] λh=>.rn [g b 0,h])) (.rx 0 [g b 0,g b 1])) (lx 0 (λj=>.rr [I (-1)]) λj=>.rr [g j 0])
def RC:Cu cx 288 eQ:=λ_ _=>by kernel_rfl
def eR(p q:Aa):IT:=
 .ld q λa=>.ln [a] λb=>.loop 2 [ff,I 0] (λc=>.il [g c 1,b] λd=>.Ah d (.ea 1 [a,g c 1] λe=>.ld e λf=>.B7 f [p] λh=>.Ah h (.rr [tt,g c 1]) (.ia [g c 1,I 1] λj=>.rn [g c 0,j])) (.rx 0 [g c 0,g c 1])) (lx 0 (λk=>.rr [ff]) λk=>.rr [g k 0])
def RD:Cu cx 296 eR:=λ_ _=>by kernel_rfl
def eS(p q r:Aa):IT:=
 .ld q λa=>.ik [a,p] λb=>.Ah b (.ld r λc=>.ik [p,c] λd=>.rr [d]) (.rr [ff])
def RE:I9 cx 297 eS:=λ_ _ _=>by kernel_rfl
def oY(p:Aa):IT:=
 .call 251 [.int .i32 65,.int .i32 90] λa=>.B7 a [p] λb=>.rr [b]
def Y4:CN cx 300 oY:=λ_=>by kernel_rfl
def oZ(p q:Aa):IT:=
 .cells 1 q λa=>.call 216 [p,.func (.func 302) [] [.A9 [g a 0]]] λb=>.nt [b] λc=>.rr [c]
def Y5:Cu cx 301 oZ:=λ_ _=>by kernel_rfl
def o3(p q:Aa):IT:=
 .cells 3 p λa=>.ld q λb=>.call 303 [b,a3 a] λc=>.nt [c] λd=>.rr [d]
def Y6:Cu cx 302 o3:=λ_ _=>by kernel_rfl
def o4(p q:Aa):IT:=
 .cells 3 q λa=>.call 321 [p,a3 a] λb=>.ih [b,I 0] λc=>.rr [c]
def Y7:Cu cx 303 o4:=λ_ _=>by kernel_rfl
def o5(p:Aa):IT:=
 .cells 1 p λa=>.ie [g a 0,I 4] λb=>.Ah b (.rr [.func (.func 322) [] []]) (.ie [g a 0,I 5] λc=>.Ah c (.rr [.func (.func 323) [] []]) (.rr [.func (.func 324) [] [.A9 [g a 0]]]))
def Y8:CN cx 304 o5:=λ_=>by kernel_rfl
def o6(p q r:Aa):IT:=
 .cells 4 p λa=>.ld q λb=>.B7 b [a4 a] λc=>.Ah c (.rr [tt]) (.ld r λd=>.B7 d [a4 a] λe=>.rr [e])
def Y9:I9 cx 305 o6:=λ_ _ _=>by kernel_rfl
def o7(p q r:Aa):IT:=
 .ln [p] λa=>.mem (.S7 3) [p,q,r,a] λ_=>.ie [q,r] λb=>.Ah b (.rr [p]) (.ln [p] λc=>.op (.Ku 3 false false true) [p,q] λd=>.op (.Ku 3 false true false) [p,r] λe=>.Dm 3 48 d e λf=>.ln [f] λh=>.mem (.Vr 3 true true) [f,h,c] λj=>.mem (.clear 3 [I 0,S [],.slnil]) [j] λ_=>.rr [f])
def Za:I9 cx 306 o7:=λ_ _ _=>by kernel_rfl
def o8(p q r:Aa):IT:=
 .cells 4 r λa=>.call 165 [p,q] λb=>.il [b,I 1] λc=>.Ah c (.DJ 0 p (.rr [ff])) (.AN p 0 λ_ _ d=>.call 325 [d] λe=>.fa p 0 λ_ f=>.store 1 f e (.AN p 0 λ_ _ h=>.ea 4 [h,b] λj=>.store 4 j (a4 a) (.DJ 0 p (.rr [tt]))))
def Zb:I9 cx 307 o8:=λ_ _ _=>by kernel_rfl
def o9(p q r:Aa):IT:=
 .cells 3 r λa=>.call 214 [p,q] λb=>.il [b,I 0] λc=>.Ah c (.DJ 0 p (.rr [ff])) (.AN p 0 λ_ _ d=>.call 166 [d] λe=>.fa p 0 λ_ f=>.store 1 f e (.AN p 0 λ_ h j=>.call 270 [a3 a] λk=>.ld h λm=>.same j m (.ea 3 [j,b] λn=>.store 3 n k (.DJ 0 p (.rr [tt])))))
def Zc:I9 cx 308 o9:=λ_ _ _=>by kernel_rfl
def pA(p q:Aa):IT:=
 .cells 3 p λa=>.fl q 0 λ_ b=>.ie [b,g a 0] λc=>.Ah c (.fl q 1 λ_ d=>.se [d,g a 1] λe=>.rr [e]) (.rr [ff])
def Zd:Cu cx 309 pA:=λ_ _=>by kernel_rfl
def pB(p q:Aa):IT:=
 .make 2 16 [I 0,I 0] i0 (I 32) λ_=>.fail
def Ze:Cu cx 310 pB:=λ_ _=>by kernel_rfl
def pC(p q:Aa):IT:=
 .cells 3 q λa=>.ln [p] λb=>.loop 2 [I 0,I 0] (λc=>.il [g c 1,b] λd=>.Ah d (.ea 3 [p,g c 1] λe=>.load (some 3) e λf=>.op (.geq false [.i,.s,.s]) [a3 a,f] λh=>.Ah h (.rr [g c 1,g c 1]) (.ia [g c 1,I 1] λj=>.rn [g c 0,j])) (.rx 0 [g c 0,g c 1])) (lx 0 (λk=>.rr [I (-1)]) λk=>.rr [g k 0])
def Zf:Cu cx 321 pC:=λ_ _=>by kernel_rfl
def pD(p:Aa):IT:=
 .cells 4 p λa=>.op (.BD 1) [S kz,S lj,S ku] λb=>.call 206 [a4 a,b] λc=>.rr [c]
def Zg:CN cx 322 pD:=λ_=>by kernel_rfl
def pE(p:Aa):IT:=
 .cells 4 p λa=>.op (.BD 1) [S mb,S mh] λb=>.call 206 [a4 a,b] λc=>.nt [c] λd=>.rr [d]
def Zh:CN cx 323 pE:=λ_=>by kernel_rfl
def pF(p q:Aa):IT:=
 .cells 4 p λa=>.ie [g a 1,I 3] λb=>.Ah b (.AW 179 [g a 1,g a 2] λc=>.rr [c]) (.ie [g a 1,I 2] λd=>.Ah d (.AW 179 [g a 1,g a 2] λe=>.rr [e]) (.op (.BD 1) [S [97,112,112,108,101,116],S ma,S kz,S nz,S [111,98,106,101,99,116],S lj,S [116,100],S ku,S [116,104]] λf=>.call 206 [a4 a,f] λh=>.Ah h (.rr [tt]) (.ld q λj=>.ie [j,I 2] λk=>.Ah k (.op (.BD 1) [S [111,108],S [117,108]] λm=>.call 206 [a4 a,m] λn=>.Ah n (.rr [tt]) (.ld q λo=>.ie [o,I 3] λs=>.Ah s (.op (.BD 1) [S l_] λu=>.call 206 [a4 a,u] λw=>.rr [w]) (.rr [ff]))) (.ld q λy=>.ie [y,I 3] λz=>.Ah z (.op (.BD 1) [S l_] λa0=>.call 206 [a4 a,a0] λa1=>.rr [a1]) (.rr [ff])))))
def Zi:Cu cx 324 pF:=λ_ _=>by kernel_rfl
def pG(p:Aa):IT:=
 .op (.FZ false .sl) [p,.slnil] λa=>.Ah a (.rr [.slnil]) (.op (.BD 4) [] λb=>.Eh 4 40 b p λc=>.rr [c])
def Zj:CN cx 325 pG:=λ_=>by kernel_rfl
def RF(p:Aa):IT:=
 .op (.FZ false .sl) [p,.slnil] λa=>.Ah a (.rr [.slnil]) (.op (.BD 3) [] λb=>.Eh 3 40 b p λc=>.rr [c])
def Qp:CN cx 100069 RF:=λ_=>by kernel_rfl
def RG(p:Aa):IT:=
 .AN p 6 λ_ _ a=>.ln [a] λb=>.ig [b,I 0] λc=>.Ah c (.AN p 6 λ_ _ d=>.ib [b,I 1] λe=>.op (.Ku 1 false false true) [d,e] λf=>.call 200068 [f] λh=>.fa p 6 λ_ j=>.store 1 j h (.rr [.tuple []])) (.rr [.tuple []])
def Qq:CN cx 100120 RG:=λ_=>by kernel_rfl
def RH(p:Aa):IT:=
 .op (.FZ false .sl) [p,.slnil] λa=>.Ah a (.rr [.slnil]) (.op (.DU 1) [] λb=>.Eh 1 8 b p λc=>.rr [c])
def Qr:CN cx 200068 RH:=λ_=>by kernel_rfl
end Go.Am
