/- Lemmas -/
import Derived.Test.YtdejbjapknkdnaaGreatDoorV9
import Derived.Test.YtdejbjapknkdnaaGreatDoorV17
set_option linter.all false
namespace Go.Am
open Go
def aEn(p:Aa):IT:=
 .BZ p 0 λ_ _ a=>.fa a 2 λ_ b=>.call 12 [b,I 1] λc=>.cells 4 c λd=>.BZ p 0 λ_ _ e=>.fa e 2 λ_ f=>.call 10 [f] λh=>.ih [h,I 2] λj=>.AJ j (.call 204 [a4 d,S aWX] λk=>.rr [.tuple [g d 0,k]]) (.rr [.tuple [g d 0,ff]])
def zK:FW cx 206 aEn:=λ_=>by kernel_rfl
def aEo(p q:Aa):IT:=
 .op (.Cl 1) [q] λa=>.call 93 [p,a] λb=>.iq [b,I 0] λc=>.AJ c (.rr [b]) (.call 103 [p,q] λ_=>.rr [I 0])
def zL:Ff cx 207 aEo:=λ_ _=>by kernel_rfl
def aEp(p q:Aa):IT:=
 .op (.Ud false) [p,.ptr none] λa=>.AJ a (.rr [I (-1)]) (.BZ p 0 λ_ _ b=>.ln [b] λc=>.ib [c,I 1] λd=>.loop 4 [I 0,d] (λe=>.ih [g e 1,I 0] λf=>.AJ f (.BZ p 0 λ_ _ h=>.ea 3 [h,g e 1] λj=>.fl j 0 λ_ k=>.iq [k,I 0] λm=>.AJ m (.BZ p 0 λ_ _ n=>.ea 3 [n,g e 1] λo=>.fl o 1 λ_ s=>.se [s,q] λu=>.AJ u (.rr [g e 1,g e 1]) (.ib [g e 1,I 1] λw=>.rn [g e 0,w])) (.rx 0 [g e 0,g e 1])) (.rx 0 [g e 0,g e 1])) (lx 0 (λy=>.rr [I (-1)]) λy=>.rr [g y 0]))
def zM:Ff cx 208 aEp:=λ_ _=>by kernel_rfl
def š(p q:Aa):IT:=
 .call 211 [p,q] λa=>.il [a,I 0] λb=>.AJ b (.rr [ff]) (.BZ p 0 λ_ _ c=>.call 247 [c,a] λd=>.fa p 0 λ_ e=>.store 1 e d (.rr [tt]))
def gI:Ff cx 209 š:=λ_ _=>by kernel_rfl
def aEq(p q:Aa):IT:=
 .cells 4 p λa=>.ld q λb=>.ie [g a 0,b] λc=>.rr [c]
def zN:Ff cx 210 aEq:=λ_ _=>by kernel_rfl
def aEr(p q:Aa):IT:=
 .op (.Ud false) [p,.ptr none] λa=>.AJ a (.rr [I (-1)]) (.ie [q,I 0] λb=>.AJ b (.rr [I (-1)]) (.BZ p 0 λ_ _ c=>.ln [c] λd=>.ib [d,I 1] λe=>.loop 4 [I 0,e] (λf=>.ih [g f 1,I 0] λh=>.AJ h (.BZ p 0 λ_ _ j=>.ea 3 [j,g f 1] λk=>.fl k 0 λ_ m=>.ie [m,q] λn=>.AJ n (.rr [g f 1,g f 1]) (.ib [g f 1,I 1] λo=>.rn [g f 0,o])) (.rx 0 [g f 0,g f 1])) (lx 0 (λs=>.rr [I (-1)]) λs=>.rr [g s 0])))
def zO:Ff cx 211 aEr:=λ_ _=>by kernel_rfl
def mZ(p q:Aa):IT:=
 .fa p 3 λ_ a=>.call 208 [a,q] λb=>.il [b,I 0] λc=>.AJ c (.call 82 [p,q] λ_=>.rr [ff]) (.fa p 3 λ_ d=>.fl d 0 λ_ e=>.ea 3 [e,b] λf=>.load (some 3) f λh=>.op (.CT [I 0,S [],.slnil,I 0,I 0,I 0,I 0,S [],ff,I 0,I 0,S [],ff,I 0] [(0,3),(3,1),(4,1)]) [h,b,b] λj=>.alloc 14 j λk=>.fa k 0 λ_ m=>.fl m 0 λ_ n=>.fa p 2 λ_ o=>.call 143 [o,n] λs=>.il [s,I 0] λu=>.AJ u (.call 248 [k,p,b] λ_=>.rr [ff]) (.ie [s,I 0] λw=>.AJ w (.rr [ff]) (.fa p 2 λ_ y=>.call 214 [y,I 1,n] λz=>.nt [z] λa0=>.AJ a0 (.rr [ff]) (.fa p 2 λ_ a1=>.call 249 [a1,n] λa2=>.il [a2,I 0] λa5=>.AJ a5 (.fa p 2 λ_ a7=>.call 157 [a7,n] λ_=>.call 248 [k,p,b] λ_=>.rr [ff]) (.fa p 2 λ_ a8=>.ib [s,I 1] λb0=>.fa p 2 λ_ b1=>.call 12 [a8,b0] λb2=>.call 12 [b1,a2] λb3=>.fa k 5 λ_ b4=>.store 4 b4 b2 (.fa k 9 λ_ b5=>.store 4 b5 b3 (.fa k 9 λ_ b6=>.fl b6 0 λ_ b7=>.fa k 13 λ_ b8=>.store 1 b8 b7 (.call 250 [p,k,s,a2] λ_=>.fa k 5 λ_ b9=>.fl b9 0 λ_ c0=>.call 96 [p,c0] λc1=>.op (.ext 0) [c1] λc2=>.op (.ext 1) [c1] λc3=>.BZ k 13 λ_ _ c4=>.call 99 [p,c4,c2,c3] λ_=>.fa k 0 λ_ c5=>.load (some 3) c5 λc6=>.fa k 9 λ_ c7=>.fl c7 0 λc8 c9=>.call 145 [c6] λd0=>.ld c8 λd1=>.same c9 d1 (.call 189 [p,d0,I 1,c9] λd2=>.cells 4 d2 λd3=>.BZ p 0 λ_ _ d4=>.fa k 9 λ_ d5=>.fl d5 0 λ_ d6=>.call 178 [d4,d6] λd7=>.ln [d7] λd8=>.loop 25 [I 0] (λd9=>.il [g d9 0,d8] λe0=>.AJ e0 (.ea 1 [d7,g d9 0] λe1=>.ld e1 λe2=>.call 99 [p,e2,g d3 0,I 0] λ_=>.ia [g d9 0,I 1] λe3=>.rn [e3]) (.rx 0 [g d9 0])) (lx 0 (λe4=>.fa k 9 λ_ e5=>.fl e5 0 λ_ e6=>.call 99 [p,g d3 0,e6,I 0] λ_=>.BZ k 3 λ_ _ e7=>.call 248 [k,p,e7] λ_=>.fa p 3 λ_ e8=>.fa k 0 λ_ e9=>.fl e9 1 λ_ f0=>.fa k 0 λ_ f1=>.fl f1 2 λ_ f2=>.op (.CT [I 0,S [],.slnil] [(0,1),(1,1),(2,1)]) [g d3 0,f0,f2] λf3=>.BZ k 4 λ_ _ f4=>.call 251 [e8,f3,f4] λ_=>.fa p 2 λ_ f5=>.call 119 [f5,n] λ_=>.fa p 2 λ_ f6=>.fa p 2 λ_ f7=>.fa k 9 λ_ f8=>.fl f8 0 λ_ f9=>.call 143 [f7,f9] λh0=>.ia [h0,I 1] λh1=>.call 252 [f6,a4 d3,h1] λ_=>.rr [tt]) λe4=>.rr [ff]))))))))))
def O7:Ff cx 212 mZ:=λ_ _=>by kernel_rfl
def aEs(p q r:Aa):IT:=
 .cells 1 r λa=>.call 253 [p,q,.func (.func 254) [] [.B4 [g a 0]]] λb=>.rr [b]
def zP:RL cx 213 aEs:=λ_ _ _=>by kernel_rfl
def aEt(p q r:Aa):IT:=
 .cells 1 r λa=>.call 253 [p,q,.func (.func 255) [] [.B4 [g a 0]]] λb=>.rr [b]
def zQ:RL cx 214 aEt:=λ_ _ _=>by kernel_rfl
def aEu(p q:Aa):IT:=
 .cells 4 p λa=>.iq [g a 1,I 1] λb=>.AJ b (.rr [tt]) (.AQ 216 [g a 2] λc=>.nt [c] λd=>.AJ d (.rr [tt]) (.ld q λe=>.se [g a 2,e] λf=>.rr [f]))
def zR:Ff cx 215 aEu:=λ_ _=>by kernel_rfl
def aEv(p:Aa):IT:=
 .se [p,S [100,100]] λa=>.AJ a (.rr [tt]) (.se [p,S [100,116]] λb=>.AJ b (.rr [tt]) (.se [p,S [108,105]] λc=>.AJ c (.rr [tt]) (.se [p,S aXC] λd=>.AJ d (.rr [tt]) (.se [p,S aXb] λe=>.AJ e (.rr [tt]) (.se [p,S [112]] λf=>.AJ f (.rr [tt]) (.se [p,S [114,98]] λh=>.AJ h (.rr [tt]) (.se [p,S [114,112]] λj=>.AJ j (.rr [tt]) (.se [p,S [114,116]] λk=>.AJ k (.rr [tt]) (.se [p,S aYf] λm=>.AJ m (.rr [tt]) (.rr [ff]))))))))))
def zS:FW cx 216 aEv:=λ_=>by kernel_rfl
def aEw(p q:Aa):IT:=
 .cells 4 p λa=>.ld q λb=>.ie [g a 0,b] λc=>.rr [c]
def zT:Ff cx 217 aEw:=λ_ _=>by kernel_rfl
def aEx(p q:Aa):IT:=
 .ie [p,I 3] λa=>.AJ a (.se [q,S [109,105]] λb=>.AJ b (.rr [tt]) (.se [q,S [109,110]] λc=>.AJ c (.rr [tt]) (.se [q,S [109,111]] λd=>.AJ d (.rr [tt]) (.se [q,S [109,115]] λe=>.AJ e (.rr [tt]) (.se [q,S [109,116,101,120,116]] λf=>.rr [f]))))) (.rr [ff])
def zU:Ff cx 218 aEx:=λ_ _=>by kernel_rfl
def aEy:IT:=
 .op (.CT [S [],I 0] [(0,1),(1,1)]) [S [116,114],I 14] λa=>.op (.CT [S [],I 0] [(0,1),(1,1)]) [S aXK,I 13] λb=>.op (.CT [S [],I 0] [(0,1),(1,1)]) [S aXL,I 13] λc=>.op (.CT [S [],I 0] [(0,1),(1,1)]) [S aXH,I 13] λd=>.op (.CT [S [],I 0] [(0,1),(1,1)]) [S aXl,I 11] λe=>.op (.CT [S [],I 0] [(0,1),(1,1)]) [S aXu,I 12] λf=>.op (.CT [S [],I 0] [(0,1),(1,1)]) [S aXa,I 9] λh=>.op (.CT [S [],I 0] [(0,1),(1,1)]) [S aWX,I 7] λj=>.op (.CT [S [],I 0] [(0,1),(1,1)]) [S aW0,I 20] λk=>.op (.Cl 2) [a,b,c,d,e,f,h,j,k] λm=>.rr [m]
def zV:B7 cx 219 []=aEy:=by kernel_rfl
def aEz(p q:Aa):IT:=
 .ib [q,I 1] λa=>.loop 2 [I 0,a] (λb=>.ih [g b 1,I 0] λc=>.AJ c (.fa p 2 λ_ d=>.call 12 [d,g b 1] λe=>.op (.Cl 1) [S aWU] λf=>.call 155 [e,f] λh=>.AJ h (.rx 0 [g b 0,g b 1]) (.fa p 2 λ_ j=>.call 12 [j,g b 1] λk=>.op (.Cl 1) [S aXa] λm=>.call 155 [k,m] λn=>.AJ n (.rr [I 17,g b 1]) (.ib [g b 1,I 1] λo=>.rn [g b 0,o]))) (.rx 0 [g b 0,g b 1])) (lx 0 (λs=>.rr [I 16]) λs=>.rr [g s 0])
def zW:Ff cx 220 aEz:=λ_ _=>by kernel_rfl
def aEA(p q:Aa):IT:=
 .ld q λa=>.ln [a] λb=>.loop 2 [ff,I 0] (λc=>.il [g c 1,b] λd=>.AJ d (.ea 1 [a,g c 1] λe=>.ld e λf=>.El f [p] λh=>.AJ h (.rr [tt,g c 1]) (.ia [g c 1,I 1] λj=>.rn [g c 0,j])) (.rx 0 [g c 0,g c 1])) (lx 0 (λk=>.rr [ff]) λk=>.rr [g k 0])
def zX:Ff cx 229 aEA:=λ_ _=>by kernel_rfl
def Ţ(p q r:Aa):IT:=
 .ld q λa=>.ik [a,p] λb=>.AJ b (.ld r λc=>.ik [p,c] λd=>.rr [d]) (.rr [ff])
def gJ:RL cx 230 Ţ:=λ_ _ _=>by kernel_rfl
def ţ(p q:Aa):IT:=
 .call 52 [p,q] λa=>.nt [a] λb=>.AJ b (.rr [I 0]) (.call 57 [p,q] λc=>.fa c 0 λ_ d=>.fl d 1 λ_ e=>.rr [e])
def gK:Ff cx 231 ţ:=λ_ _=>by kernel_rfl
def aEB(p q:Aa):IT:=
 .ln [p] λa=>.loop 2 [I 0,I 0] (λb=>.il [g b 1,a] λc=>.AJ c (.ea 1 [p,g b 1] λd=>.ld d λe=>.El q [e] λf=>.AJ f (.rr [g b 1,g b 1]) (.ia [g b 1,I 1] λh=>.rn [g b 0,h])) (.rx 0 [g b 0,g b 1])) (lx 0 (λj=>.rr [I (-1)]) λj=>.rr [g j 0])
def zY:Ff cx 232 aEB:=λ_ _=>by kernel_rfl
def aEC(p:Aa):IT:=
 .call 174 [.int .i32 65,.int .i32 90] λa=>.El a [p] λb=>.rr [b]
def zZ:FW cx 235 aEC:=λ_=>by kernel_rfl
def aED(p q:Aa):IT:=
 .ln [p] λa=>.loop 2 [I 0,I 0] (λb=>.il [g b 1,a] λc=>.AJ c (.ea 1 [p,g b 1] λd=>.ld d λe=>.se [q,e] λf=>.AJ f (.rr [g b 1,g b 1]) (.ia [g b 1,I 1] λh=>.rn [g b 0,h])) (.rx 0 [g b 0,g b 1])) (lx 0 (λj=>.rr [I (-1)]) λj=>.rr [g j 0])
def ae:Ff cx 236 aED:=λ_ _=>by kernel_rfl
def aEE(p:Aa):IT:=
 .loop 5 [I 0,I 1,.int .u8 0,I 0] (λa=>.lt [p] λb=>.il [g a 3,b] λc=>.AJ c (.op .SN [p,g a 3] λd=>.op (.int .or) [g a 2,d] λe=>.op (.Vc 256 1) [.B4 Hb,d] λf=>.ld f λh=>.op (.conv .i64) [h] λj=>.op (.un .xor) [j] λk=>.op (.int .and) [g a 1,k] λm=>.ia [g a 0,m] λn=>.ia [g a 3,I 1] λo=>.rn [n,j,e,o]) (.rx 0 [g a 0,g a 1,g a 2,g a 3])) (lx 0 (λs=>.ih [g s 2,.int .u8 128] λu=>.AJ u (.call 261 [p,.func (.func 262) [] []] λw=>.VR w λy=>.rr [y]) (.make 1 16 [S []] (g s 0) (g s 0) λz=>.loop 18 [I 0] (λa0=>.lt [p] λa1=>.il [g a0 0,a1] λa2=>.AJ a2 (.op .SN [p,g a0 0] λa5=>.op (.Vc 256 1) [.B4 Hb,a5] λa7=>.ld a7 λa8=>.iq [a8,.int .u8 0] λb0=>.AJ b0 (.ia [g a0 0,I 1] λb1=>.rn [b1]) (.rx 2 [g a0 0])) (.rx 2 [g a0 0])) (lx 2 (λb2=>.loop 21 [I 0,g b2 0,g b2 0] (λb3=>.lt [p] λb4=>.il [g b3 2,b4] λb5=>.AJ b5 (.op .SN [p,g b3 2] λb6=>.op (.Vc 256 1) [.B4 Hb,b6] λb7=>.ld b7 λb8=>.ie [b8,.int .u8 0] λb9=>.AJ b9 (.ia [g b3 2,I 1] λc1=>.rn [g b3 0,g b3 1,c1]) (.op (.PQ 0 true true true) [p,g b3 1,g b3 2] λc2=>.ea 1 [z,g b3 0] λc3=>.store 1 c3 c2 (.ia [g b3 0,I 1] λc4=>.ia [g b3 2,I 1] λc5=>.loop 27 [c5] (λc6=>.lt [p] λc7=>.il [g c6 0,c7] λc8=>.AJ c8 (.op .SN [p,g c6 0] λc9=>.op (.Vc 256 1) [.B4 Hb,c9] λd0=>.ld d0 λd1=>.iq [d1,.int .u8 0] λd2=>.AJ d2 (.ia [g c6 0,I 1] λd3=>.rn [d3]) (.rx 6 [g c6 0])) (.rx 6 [g c6 0])) (λx d4=>match x with| .normal=>.fail| .exit i=>if i=6 then .rn [c4,g d4 0,g d4 0] else if i=5 then .rn [c4,g b3 1,g d4 0] else .ret (.exit i) [c4,g b3 1,g d4 0]| .ret=>.rr [c4,g b3 1,g d4 0])))) (.rx 4 [g b3 0,g b3 1,g b3 2])) (lx 4 (λd5=>.lt [p] λd6=>.il [g d5 1,d6] λd7=>.AJ d7 (.op (.PQ 0 true true false) [p,g d5 1] λd8=>.ea 1 [z,g d5 0] λd9=>.store 1 d9 d8 (.VR z λe0=>.rr [e0])) (.VR z λe1=>.rr [e1])) λd5=>.VR .slnil λe2=>.rr [e2])) λb2=>.VR .slnil λe3=>.rr [e3]))) λs=>.VR .slnil λe4=>.rr [e4])
def af:FW cx 237 aEE:=λ_=>by kernel_rfl
def aEF(p q:Aa):IT:=
 .NY λa=>.op (.CT [I 0,S [],S []] [(0,1),(1,1)]) [I 4,S aYv] λb=>.H6 a (S aXU) b (.op (.CT [I 0,S [],S []] [(0,1),(1,1)]) [I 4,S aYt] λc=>.H6 a (S aXS) c (.op (.CT [I 0,S [],S []] [(0,1),(1,1)]) [I 4,S aYZ] λd=>.H6 a (S aX0) d (.op (.CT [I 0,S [],S []] [(0,1),(1,1)]) [I 4,S aY0] λe=>.H6 a (S aX1) e (.op (.CT [I 0,S [],S []] [(0,1),(1,1)]) [I 4,S aY1] λf=>.H6 a (S aX2) f (.op (.CT [I 0,S [],S []] [(0,1),(1,1)]) [I 4,S aW4] λh=>.H6 a (S aXW) h (.op (.CT [I 0,S [],S []] [(0,1),(1,1)]) [I 4,S aX5] λj=>.H6 a (S aX3) j (.op (.CT [I 0,S [],S []] [(0,1),(1,1)]) [I 5,S [108,97,110,103]] λk=>.H6 a (S aYj) k (.op (.CT [I 0,S [],S []] [(0,1),(1,1)]) [I 5,S aYS] λm=>.H6 a (S aYa) m (.op (.CT [I 0,S [],S []] [(0,1),(1,1)]) [I 6,S aXZ] λn=>.H6 a (S aXZ) n (.op (.CT [I 0,S [],S []] [(0,1),(1,1)]) [I 6,S aYL] λo=>.H6 a (S aXX) o (.ln [q] λs=>.loop 4 [.slnil,I 0] (λu=>.il [g u 1,s] λw=>.AJ w (.ea 3 [q,g u 1] λy=>.load (some 3) y λz=>.cells 3 z λa0=>.op (.CT [I 0,S [],S []] [(1,1),(2,1)]) [g a0 1,g a0 2] λa1=>.cells 3 a1 λa2=>.ie [p,I 2] λa5=>.Gp 100036 (.AJ a5 (.AQ 263 [g a0 1] λa7=>.cells 1 a7 λa8=>.rn [.agg [g a2 0,g a8 0,g a2 2]]) (.Gp 200009 (.ie [p,I 3] λb0=>.AJ b0 (.se [g a0 1,S aX9] λb1=>.rn [b1]) (.rn [ff])) (λx b2=>match x with| .normal=>.Gp 100043 (.AJ (g b2 0) (.cells 1 (S aYc) λb3=>.rn [.agg [g a2 0,g b3 0,g a2 2]]) (.rn [a3 a2])) (λx b4=>.cells 3 (g b4 0) λb5=>.ret x [a3 b5])| .exit i=>.ret (.exit i) [a3 a2]| .ret=>.rr [a3 a2]))) (λx b6=>.cells 3 (g b6 0) λb7=>match x with| .normal=>.MB (.agg [I 0,S [],S []]) true a (g b7 1) λb8=>.op (.ext 0) [b8] λb9=>.op (.ext 1) [b8] λc0=>.cells 3 b9 λc1=>.Gp 200012 (.AJ c0 (.ie [p,I 2] λc2=>.AJ c2 (.rn [tt]) (.ie [p,I 3] λc3=>.rn [c3])) (.rn [ff])) (λx c4=>match x with| .normal=>.Gp 100067 (.AJ (g c4 0) (.cells 1 (g c1 0) λc5=>.cells 1 (g c1 1) λc6=>.rn [.agg [g c5 0,g c6 0,g b7 2]]) (.rn [a3 b7])) (λx c7=>.cells 3 (g c7 0) λc8=>match x with| .normal=>.op (.Cl 3) [a3 c8] λc9=>.op (.append 3 40) [g u 0,c9] λd0=>.ia [g u 1,I 1] λd1=>.rn [d0,d1]| .exit i=>if i=1 then .ia [g u 1,I 1] λd2=>.rn [g u 0,d2] else .ret (.exit i) [g u 0,g u 1]| .ret=>.rr [g u 0,g u 1])| .exit i=>if i=1 then .ia [g u 1,I 1] λd3=>.rn [g u 0,d3] else .ret (.exit i) [g u 0,g u 1]| .ret=>.rr [g u 0,g u 1])| .exit i=>if i=2 then .MB (.agg [I 0,S [],S []]) true a (g b7 1) λd4=>.op (.ext 0) [d4] λd5=>.op (.ext 1) [d4] λd6=>.cells 3 d5 λd7=>.Gp 200012 (.AJ d6 (.ie [p,I 2] λd8=>.AJ d8 (.rn [tt]) (.ie [p,I 3] λd9=>.rn [d9])) (.rn [ff])) (λx e0=>match x with| .normal=>.Gp 100067 (.AJ (g e0 0) (.cells 1 (g d7 0) λe1=>.cells 1 (g d7 1) λe2=>.rn [.agg [g e1 0,g e2 0,g b7 2]]) (.rn [a3 b7])) (λx e3=>.cells 3 (g e3 0) λe4=>match x with| .normal=>.op (.Cl 3) [a3 e4] λe5=>.op (.append 3 40) [g u 0,e5] λe6=>.ia [g u 1,I 1] λe7=>.rn [e6,e7]| .exit i=>if i=1 then .ia [g u 1,I 1] λe8=>.rn [g u 0,e8] else .ret (.exit i) [g u 0,g u 1]| .ret=>.rr [g u 0,g u 1])| .exit i=>if i=1 then .ia [g u 1,I 1] λe9=>.rn [g u 0,e9] else .ret (.exit i) [g u 0,g u 1]| .ret=>.rr [g u 0,g u 1]) else if i=1 then .ia [g u 1,I 1] λf0=>.rn [g u 0,f0] else .ret (.exit i) [g u 0,g u 1]| .ret=>.rr [g u 0,g u 1])) (.rx 0 [g u 0,g u 1])) (lx 0 (λf1=>.rr [g f1 0]) λf1=>.rr [.slnil]))))))))))))
def ag:Ff cx 238 aEF:=λ_ _=>by kernel_rfl
def aEG(p:Aa):IT:=
 .AQ 264 [p,S aWO] λa=>.rr [a]
def ah:FW cx 239 aEG:=λ_=>by kernel_rfl
def Ť(p q r u w:Aa):IT:=
 .call 100 [p,q] λa=>.iq [a,I 0] λb=>.AJ b (.rr [.tuple [I 0,a]]) (.call 265 [w] λc=>.op (.ext 0) [c] λd=>.op (.ext 1) [c] λe=>.nt [e] λf=>.AJ f (.rr [.tuple [I 0,I 2]]) (.op (.Cl 1) [r] λh=>.call 266 [h] λj=>.nt [j] λk=>.AJ k (.rr [.tuple [I 0,I 2]]) (.op (.CT [I 0,I 0,.slnil,I 0,I 0,S [],.slnil,S [],S [],S [],ff,I 0,I 0] [(0,1),(3,1),(4,1),(5,1),(6,1)]) [I 4,q,r,u,d] λm=>.call 56 [p,m] λn=>.call 57 [p,n] λo=>.call 267 [o] λs=>.AJ s (.call 268 [p,q] λy=>.op (.CT [I 0,I 0,.slnil,I 0,I 0,S [],.slnil,S [],S [],S [],ff,I 0,I 0] [(0,1),(12,1),(3,1)]) [I 2,n,y] λz=>.call 56 [p,z] λa0=>.call 57 [p,n] λa1=>.fa a1 0 λ_ a2=>.op (.FN 11) [a2] λa5=>.store 1 a5 a0 (.rr [.tuple [n,I 0]])) (.rr [.tuple [n,I 0]]))))
def gL:Tq5 cx 240 Ť:=λ_ _ _ _ _=>by kernel_rfl
def ť(p q:Aa):IT:=
 .call 97 [p,q] λa=>.cells 13 a λb=>.iq [g b 11,I 0] λc=>.AJ c (.call 97 [p,g b 11] λd=>.cells 13 d λe=>.iq [g e 3,I 0] λf=>.AJ f (.rr [g e 3]) (.BZ p 1 λ_ _ h=>.rr [h])) (.iq [g b 3,I 0] λj=>.AJ j (.rr [g b 3]) (.BZ p 1 λ_ _ k=>.rr [k]))
def gM:Ff cx 241 ť:=λ_ _=>by kernel_rfl
def aEH(p q r:Aa):IT:=
 .ie [p,I 2] λa=>.AJ a (.AQ 158 [p,q] λb=>.rr [b]) (.iq [p,I 3] λc=>.AJ c (.rr [ff]) (.op (.str .neq) [q,S aW5] λd=>.AJ d (.rr [ff]) (.call 269 [r,.func (.func 270) [] []] λe=>.ih [e,I 0] λf=>.AJ f (.ea 3 [r,e] λh=>.fl h 2 λ_ j=>.AQ 106 [j,S aYE] λk=>.AJ k (.rr [tt]) (.ea 3 [r,e] λm=>.fl m 2 λ_ n=>.AQ 106 [n,S aXP] λo=>.rr [o])) (.rr [ff]))))
def aj:RL cx 242 aEH:=λ_ _ _=>by kernel_rfl
def aEI(p q:Aa):IT:=
 .cells 3 q λa=>.op (.Ud false) [p,.ptr none] λb=>.AJ b (.rr [.tuple []]) (.iq [g a 0,I 0] λc=>.Gp 100011 (.AJ c (.BZ p 0 λ_ _ d=>.ln [d] λe=>.ib [e,I 1] λf=>.loop 5 [I 0,I 0,f] (λh=>.call 163 [p] λj=>.ih [g h 2,j] λk=>.AJ k (.BZ p 0 λ_ _ m=>.ea 3 [m,g h 2] λn=>.load (some 3) n λo=>.call 271 [o,a3 a] λs=>.Gp 100032 (.AJ s (.ia [g h 1,I 1] λu=>.rn [g h 2,u]) (.rn [g h 0,g h 1])) (λx w=>match x with| .normal=>.ib [g h 2,I 1] λy=>.rn [g w 0,g w 1,y]| .exit i=>if i=1 then .ib [g h 2,I 1] λz=>.rn [g w 0,g w 1,z] else .ret (.exit i) [g w 0,g w 1,g h 2]| .ret=>.rr [g w 0,g w 1,g h 2])) (.rx 0 [g h 0,g h 1,g h 2])) (λx a0=>match x with| .normal=>.fail| .exit i=>if i=0 then .ih [g a0 1,I 3] λa1=>.Gp 100037 (.AJ a1 (.BZ p 0 λ_ _ a2=>.call 247 [a2,g a0 0] λa5=>.fa p 0 λ_ a7=>.store 1 a7 a5 (.rn [])) (.rn [])) (λx _=>.ret x []) else .ret (.exit i) []| .ret=>.rr [])) (.rn [])) (nx (λa8=>.BZ p 0 λ_ b0 b1=>.BZ p 0 λ_ b2 b3=>.ln [b3] λb4=>.call 272 [a3 a] λb5=>.ld b2 λb6=>.same b3 b6 (.ld b0 λb7=>.same b1 b7 (.call 115 [b1,b5,b4] λb8=>.fa p 0 λ_ b9=>.store 1 b9 b8 (.rr [.tuple []])))) λa8=>.rr [.tuple []]))
def ak:Ff cx 243 aEI:=λ_ _=>by kernel_rfl
def Ŧ(p q:Aa):IT:=
 .call 269 [p,q] λa=>.ih [a,I 0] λb=>.rr [b]
def gN:Ff cx 244 Ŧ:=λ_ _=>by kernel_rfl
def aEJ(p q:Aa):IT:=
 .cells 3 p λa=>.ie [g a 0,I 0] λb=>.AJ b (.fl q 1 λ_ c=>.se [g a 1,c] λd=>.rr [d]) (.rr [ff])
def ao:Ff cx 245 aEJ:=λ_ _=>by kernel_rfl
def aEK(p q r:Aa):IT:=
 .op (.Cl 1) [q] λa=>.call 93 [p,a] λb=>.iq [b,I 0] λc=>.AJ c (.rr [b]) (.call 57 [p,q] λd=>.fa d 0 λ_ e=>.fl e 0 λ_ f=>.iq [f,I 4] λh=>.AJ h (.rr [I 9]) (.call 265 [r] λj=>.op (.ext 0) [j] λk=>.op (.ext 1) [j] λm=>.nt [m] λn=>.AJ n (.rr [I 2]) (.fa d 0 λ_ o=>.op (.FN 6) [o] λs=>.store 1 s k (.rr [I 0]))))
def aq:RL cx 246 aEK:=λ_ _ _=>by kernel_rfl
def aEL(p q:Aa):IT:=
 .op (.PQ 3 false false true) [p,q] λa=>.op (.append 3 48) [.slnil,a] λb=>.ia [q,I 1] λc=>.op (.PQ 3 false true false) [p,c] λd=>.op (.append 3 48) [b,d] λe=>.rr [e]
def au:Ff cx 247 aEL:=λ_ _=>by kernel_rfl
def aEM(p q r:Aa):IT:=
 .fa q 3 λ_ a=>.fl a 0 λ_ b=>.call 144 [b] λc=>.ia [r,I 1] λd=>.call 273 [c,r,d] λe=>.fa q 3 λ_ f=>.op (.FN 0) [f] λh=>.store 1 h e (.BZ p 3 λ_ _ j=>.il [r,j] λk=>.AJ k (.BZ p 3 λ_ _ m=>.ib [m,I 1] λn=>.fa p 3 λ_ o=>.store 1 o n (.BZ p 4 λ_ _ s=>.il [r,s] λu=>.AJ u (.BZ p 4 λ_ _ w=>.ib [w,I 1] λy=>.fa p 4 λ_ z=>.store 1 z y (.IC 3 q (.rr [.tuple []]))) (.IC 3 q (.rr [.tuple []])))) (.BZ p 4 λ_ _ a0=>.il [r,a0] λa1=>.AJ a1 (.BZ p 4 λ_ _ a2=>.ib [a2,I 1] λa5=>.fa p 4 λ_ a7=>.store 1 a7 a5 (.IC 3 q (.rr [.tuple []]))) (.IC 3 q (.rr [.tuple []]))))
def aw:RL cx 248 aEM:=λ_ _ _=>by kernel_rfl
def aEN(p q:Aa):IT:=
 .call 143 [p,q] λa=>.ia [a,I 1] λb=>.loop 3 [I 0,b] (λc=>.ih [a,I 0] λd=>.AJ d (.call 10 [p] λe=>.il [g c 1,e] λf=>.AJ f (.BZ p 0 λ_ _ h=>.ea 4 [h,g c 1] λj=>.fl j 1 λ_ k=>.BZ p 0 λ_ _ m=>.ea 4 [m,g c 1] λn=>.fl n 2 λ_ o=>.AQ 158 [k,o] λs=>.AJ s (.rr [g c 1,g c 1]) (.ia [g c 1,I 1] λu=>.rn [g c 0,u])) (.rx 0 [g c 0,g c 1])) (.rx 0 [g c 0,g c 1])) (lx 0 (λw=>.rr [I (-1)]) λw=>.rr [g w 0])
def ax:Ff cx 249 aEN:=λ_ _=>by kernel_rfl
def aEO(p q r u:Aa):IT:=
 .ib [u,I 1] λa=>.loop 2 [I 0,a] (λb=>.ig [g b 1,r] λc=>.AJ c (.fa p 2 λ_ d=>.call 12 [d,g b 1] λe=>.cells 4 e λf=>.ia [g b 0,I 1] λh=>.fa p 3 λ_ j=>.call 211 [j,g f 0] λk=>.Gp 200007 (.ig [h,I 3] λm=>.AJ m (.ih [k,I 0] λn=>.rn [n]) (.rn [ff])) (λx o=>match x with| .normal=>.Gp 100039 (.AJ (g o 0) (.call 248 [q,p,k] λ_=>.fa p 3 λ_ s=>.call 211 [s,g f 0] λw=>.rn [w]) (.rn [k])) (λx y=>match x with| .normal=>.il [g y 0,I 0] λz=>.AJ z (.fa p 2 λ_ a0=>.call 119 [a0,g f 0] λ_=>.ib [g b 1,I 1] λa1=>.rn [h,a1]) (.fa p 3 λ_ a2=>.fl a2 0 λ_ a5=>.ea 3 [a5,g y 0] λa7=>.load (some 3) a7 λa8=>.cells 3 a8 λb0=>.fa q 5 λ_ b1=>.fl b1 0 λb2 b3=>.call 145 [a3 b0] λb4=>.ld b2 λb5=>.same b3 b5 (.call 189 [p,b4,I 1,b3] λb6=>.cells 4 b6 λb7=>.fa p 2 λ_ b8=>.call 274 [b8,g f 0,a4 b7] λ_=>.fa p 3 λ_ b9=>.op (.CT [I 0,S [],.slnil] [(0,1),(1,1),(2,1)]) [g b7 0,g b0 1,g b0 2] λc0=>.call 275 [b9,g f 0,c0] λ_=>.BZ q 13 λ_ _ c2=>.fa q 9 λ_ c3=>.fl c3 0 λ_ c4=>.ie [c2,c4] λc5=>.Gp 100104 (.AJ c5 (.ia [g y 0,I 1] λc7=>.fa q 4 λ_ c8=>.store 1 c8 c7 (.rn [])) (.rn [])) (λx _=>match x with| .normal=>.BZ q 13 λ_ _ c9=>.call 99 [p,c9,g b7 0,I 0] λ_=>.fa q 13 λ_ d0=>.store 1 d0 (g b7 0) (.ib [g b 1,I 1] λd1=>.rn [h,d1])| .exit i=>if i=1 then .ib [g b 1,I 1] λd2=>.rn [h,d2] else .ret (.exit i) [h,g b 1]| .ret=>.rr [h,g b 1])))| .exit i=>if i=1 then .ib [g b 1,I 1] λd3=>.rn [h,d3] else .ret (.exit i) [h,g b 1]| .ret=>.rr [h,g b 1])| .exit i=>if i=1 then .ib [g b 1,I 1] λd4=>.rn [h,d4] else .ret (.exit i) [h,g b 1]| .ret=>.rr [h,g b 1])) (.rx 0 [g b 0,g b 1])) (lx 0 (λd5=>.rr [.tuple []]) λd5=>.rr [.tuple []])
def ay:Tq4 cx 250 aEO:=λ_ _ _ _=>by kernel_rfl
def aEP(p q r:Aa):IT:=
 .cells 3 q λa=>.op (.Ud true) [p,.ptr none] λb=>.AJ b (.BZ p 0 λ_ c d=>.op (.L0 true) [r,I 0] λe=>.BZ p 0 λ_ f h=>.ln [h] λj=>.op (.L0 false) [e,j] λk=>.call 272 [a3 a] λm=>.ld f λn=>.same h n (.ld c λo=>.same d o (.call 115 [d,m,k] λs=>.fa p 0 λ_ u=>.store 1 u s (.rr [.tuple []])))) (.rr [.tuple []])
def az:RL cx 251 aEP:=λ_ _ _=>by kernel_rfl
def aEQ(p q r:Aa):IT:=
 .cells 4 q λa=>.op (.Ud true) [p,.ptr none] λb=>.AJ b (.BZ p 0 λ_ _ c=>.op (.L0 true) [r,I 1] λd=>.BZ p 0 λ_ _ e=>.ln [e] λf=>.op (.L0 false) [d,f] λh=>.call 195 [c,a4 a,h] λj=>.fa p 0 λ_ k=>.store 1 k j (.rr [.tuple []])) (.rr [.tuple []])
def a_:RL cx 252 aEQ:=λ_ _ _=>by kernel_rfl
def aER(p q r:Aa):IT:=
 .cells 1 r λa=>.call 276 [q] λb=>.cells 1 b λc=>.call 191 [p,.func (.func 277) [] [.B4 [g a 0],.B4 [g c 0]]] λd=>.ih [d,I 0] λe=>.AJ e (.ld (.B4 [g a 0]) λf=>.BZ p 0 λ_ _ h=>.ea 4 [h,d] λj=>.load (some 4) j λk=>.El f [k] λm=>.rr [m]) (.rr [ff])
def ba:RL cx 253 aER:=λ_ _ _=>by kernel_rfl
def aES(p q:Aa):IT:=
 .cells 4 p λa=>.ld q λb=>.call 162 [a4 a,b] λc=>.rr [c]
def bb:Ff cx 254 aES:=λ_ _=>by kernel_rfl
def aET(p q:Aa):IT:=
 .cells 4 p λa=>.ld q λb=>.ie [g a 0,b] λc=>.rr [c]
def bc:Ff cx 255 aET:=λ_ _=>by kernel_rfl
def aIb(p q:Aa):IT:=
 .make 2 16 [I 0,I 0] i0 (I 32) λ_=>.fail
def ŧ:Ff cx 261 aIb:=λ_ _=>by kernel_rfl
def aEU(p:Aa):IT:=
 .AQ 264 [p,S aWM] λa=>.rr [a]
def bd:FW cx 263 aEU:=λ_=>by kernel_rfl
def aEV(p q:Aa):IT:=
 .call 237 [q] λa=>.ln [a] λb=>.loop 2 [S [],I 0] (λc=>.il [g c 1,b] λd=>.AJ d (.ea 1 [a,g c 1] λe=>.ld e λf=>.AQ 184 [f] λh=>.se [h,p] λj=>.AJ j (.rr [f,g c 1]) (.ia [g c 1,I 1] λk=>.rn [g c 0,k])) (.rx 0 [g c 0,g c 1])) (lx 0 (λm=>.rr [p]) λm=>.rr [g m 0])
def be:Ff cx 264 aEV:=λ_ _=>by kernel_rfl
def aEW(p:Aa):IT:=
 .ln [p] λa=>.loop 3 [.slnil,ff,.slnil,I 0] (λb=>.il [g b 3,a] λc=>.AJ c (.ea 3 [p,g b 3] λd=>.load (some 3) d λe=>.cells 3 e λf=>.op (.Cl 1) [g f 0] λh=>.call 266 [h] λj=>.nt [j] λk=>.AJ k (.rr [.slnil,ff,g b 2,g b 3]) (.call 244 [g b 2,.func (.func 286) [] [.B4 [g f 0,g f 1,g f 2]]] λm=>.nt [m] λn=>.AJ n (.load (some 3) (.B4 [g f 0,g f 1,g f 2]) λo=>.op (.Cl 3) [o] λs=>.op (.append 3 40) [g b 2,s] λu=>.ia [g b 3,I 1] λw=>.rn [g b 0,g b 1,u,w]) (.ia [g b 3,I 1] λy=>.rn [g b 0,g b 1,g b 2,y]))) (.rx 0 [g b 0,g b 1,g b 2,g b 3])) (lx 0 (λz=>.rr [.tuple [g z 2,tt]]) λz=>.rr [.tuple [g z 0,g z 1]])
def bg:FW cx 265 aEW:=λ_=>by kernel_rfl
def aEX(p:Aa):IT:=
 .ln [p] λa=>.loop 2 [ff,I 0] (λb=>.il [g b 1,a] λc=>.AJ c (.ea 1 [p,g b 1] λd=>.ld d λe=>.il [e,I 0] λf=>.AJ f (.rr [ff,g b 1]) (.ig [e,I 7] λh=>.AJ h (.rr [ff,g b 1]) (.ia [g b 1,I 1] λj=>.rn [g b 0,j]))) (.rx 0 [g b 0,g b 1])) (lx 0 (λk=>.rr [tt]) λk=>.rr [g k 0])
def bj:FW cx 266 aEX:=λ_=>by kernel_rfl
def aEY(p:Aa):IT:=
 .fa p 0 λ_ a=>.fl a 0 λ_ b=>.ie [b,I 4] λc=>.AJ c (.fa p 0 λ_ d=>.fl d 4 λ_ e=>.ie [e,I 1] λf=>.AJ f (.fa p 0 λ_ h=>.fl h 5 λ_ j=>.se [j,S aWU] λk=>.rr [k]) (.rr [ff])) (.rr [ff])
def bk:FW cx 267 aEY:=λ_=>by kernel_rfl
def zp(p q:Aa):IT:=
 .BZ p 1 λ_ _ a=>.mem (.ij i0 true) [a,q] λb=>.op (.ext 0) [b] λc=>.op (.ext 1) [b] λd=>.AJ d (.rr [c]) (.call 40 [p,ff] λe=>.BZ p 1 λ_ _ f=>.op (.FM false .mp) [f,.map none] λh=>.AJ h (.NY λj=>.fa p 1 λ_ k=>.store 1 k j (.BZ p 1 λ_ _ m=>.BZ p 1 λ_ _ n=>.mem (.OB i0) [m,q] λo=>.op (.ext 1) [o] λs=>.mem .KO [m,s,e] λ_=>.mem (.OB i0) [n,e] λu=>.op (.ext 1) [u] λw=>.mem .KO [n,w,e] λ_=>.rr [e])) (.BZ p 1 λ_ _ y=>.BZ p 1 λ_ _ z=>.mem (.OB i0) [y,q] λa0=>.op (.ext 1) [a0] λa1=>.mem .KO [y,a1,e] λ_=>.mem (.OB i0) [z,e] λa2=>.op (.ext 1) [a2] λa5=>.mem .KO [z,a5,e] λ_=>.rr [e]))
def WH:Ff cx 268 zp:=λ_ _=>by kernel_rfl
def zq(p q:Aa):IT:=
 .ln [p] λa=>.loop 2 [I 0,I 0] (λb=>.il [g b 1,a] λc=>.AJ c (.ea 3 [p,g b 1] λd=>.load (some 3) d λe=>.El q [e] λf=>.AJ f (.rr [g b 1,g b 1]) (.ia [g b 1,I 1] λh=>.rn [g b 0,h])) (.rx 0 [g b 0,g b 1])) (lx 0 (λj=>.rr [I (-1)]) λj=>.rr [g j 0])
def WI:Ff cx 269 zq:=λ_ _=>by kernel_rfl
def aEZ(p:Aa):IT:=
 .cells 3 p λa=>.ie [g a 0,I 0] λb=>.AJ b (.se [g a 1,S aYK] λc=>.rr [c]) (.rr [ff])
def bl:FW cx 270 aEZ:=λ_=>by kernel_rfl
def aE0(p q:Aa):IT:=
 .cells 3 p λa=>.cells 3 q λb=>.se [g a 1,g b 1] λc=>.AJ c (.ln [g a 2] λd=>.ln [g b 2] λe=>.ie [d,e] λf=>.AJ f (.El (.func (.func 287) [] []) [g a 2,g b 2] λh=>.AJ h (.El (.func (.func 287) [] []) [g b 2,g a 2] λj=>.rr [j]) (.rr [ff])) (.rr [ff])) (.rr [ff])
def bm:Ff cx 271 aE0:=λ_ _=>by kernel_rfl
def aE1(p:Aa):IT:=
 .cells 3 p λa=>.call 33 [g a 2] λb=>.cells 1 b λc=>.cells 3 (.agg [g a 0,g a 1,g c 0]) λd=>.rr [a3 d]
def bn:FW cx 272 aE1:=λ_=>by kernel_rfl
def aE2(p q r:Aa):IT:=
 .ln [p] λa=>.mem (.pC 3) [p,q,r,a] λ_=>.ie [q,r] λb=>.AJ b (.rr [p]) (.ln [p] λc=>.op (.PQ 3 false false true) [p,q] λd=>.op (.PQ 3 false true false) [p,r] λe=>.F8 3 48 d e λf=>.ln [f] λh=>.mem (.ic 3 true true) [f,h,c] λj=>.mem (.clear 3 [I 0,S [],.slnil]) [j] λ_=>.rr [f])
def bp:RL cx 273 aE2:=λ_ _ _=>by kernel_rfl
def Ũ(p q r:Aa):IT:=
 .cells 4 r λa=>.call 143 [p,q] λb=>.il [b,I 1] λc=>.AJ c (.IC 0 p (.rr [ff])) (.BZ p 0 λ_ _ d=>.call 290 [d] λe=>.fa p 0 λ_ f=>.store 1 f e (.BZ p 0 λ_ _ h=>.ea 4 [h,b] λj=>.store 4 j (a4 a) (.IC 0 p (.rr [tt]))))
def gO:RL cx 274 Ũ:=λ_ _ _=>by kernel_rfl
def ũ(p q r:Aa):IT:=
 .cells 3 r λa=>.call 211 [p,q] λb=>.il [b,I 0] λc=>.AJ c (.IC 0 p (.rr [ff])) (.BZ p 0 λ_ _ d=>.call 144 [d] λe=>.fa p 0 λ_ f=>.store 1 f e (.BZ p 0 λ_ h j=>.call 272 [a3 a] λk=>.ld h λm=>.same j m (.ea 3 [j,b] λn=>.store 3 n k (.IC 0 p (.rr [tt])))))
def gP:RL cx 275 ũ:=λ_ _ _=>by kernel_rfl
def zr(p:Aa):IT:=
 .cells 1 p λa=>.ie [g a 0,I 4] λb=>.AJ b (.rr [.func (.func 291) [] []]) (.ie [g a 0,I 5] λc=>.AJ c (.rr [.func (.func 292) [] []]) (.rr [.func (.func 293) [] [.B4 [g a 0]]]))
def WJ:FW cx 276 zr:=λ_=>by kernel_rfl
def aE3(p q r:Aa):IT:=
 .cells 4 p λa=>.ld q λb=>.El b [a4 a] λc=>.AJ c (.rr [tt]) (.ld r λd=>.El d [a4 a] λe=>.rr [e])
def bq:RL cx 277 aE3:=λ_ _ _=>by kernel_rfl
def aE4(p q:Aa):IT:=
 .cells 3 p λa=>.fl q 0 λ_ b=>.ie [b,g a 0] λc=>.AJ c (.fl q 1 λ_ d=>.se [d,g a 1] λe=>.rr [e]) (.rr [ff])
def br:Ff cx 286 aE4:=λ_ _=>by kernel_rfl
def aE5(p q:Aa):IT:=
 .cells 1 q λa=>.call 244 [p,.func (.func 288) [] [.B4 [g a 0]]] λb=>.nt [b] λc=>.rr [c]
def bu:Ff cx 287 aE5:=λ_ _=>by kernel_rfl
def aE6(p q:Aa):IT:=
 .cells 3 p λa=>.ld q λb=>.call 289 [b,a3 a] λc=>.nt [c] λd=>.rr [d]
def bw:Ff cx 288 aE6:=λ_ _=>by kernel_rfl
def aE7(p q:Aa):IT:=
 .cells 3 q λa=>.call 307 [p,a3 a] λb=>.ih [b,I 0] λc=>.rr [c]
def bx:Ff cx 289 aE7:=λ_ _=>by kernel_rfl
def aE8(p:Aa):IT:=
 .op (.FM false .sl) [p,.slnil] λa=>.AJ a (.rr [.slnil]) (.op (.Cl 4) [] λb=>.JS 4 40 b p λc=>.rr [c])
def bz:FW cx 290 aE8:=λ_=>by kernel_rfl
def aE9(p:Aa):IT:=
 .cells 4 p λa=>.op (.Cl 1) [S aWS,S aXa,S aWU] λb=>.call 162 [a4 a,b] λc=>.rr [c]
def b_:FW cx 291 aE9:=λ_=>by kernel_rfl
def aFa(p:Aa):IT:=
 .cells 4 p λa=>.op (.Cl 1) [S aXC,S aXb] λb=>.call 162 [a4 a,b] λc=>.nt [c] λd=>.rr [d]
def cj:FW cx 292 aFa:=λ_=>by kernel_rfl
def aFb(p q:Aa):IT:=
 .cells 4 p λa=>.ie [g a 1,I 3] λb=>.AJ b (.AQ 158 [g a 1,g a 2] λc=>.rr [c]) (.ie [g a 1,I 2] λd=>.AJ d (.AQ 158 [g a 1,g a 2] λe=>.rr [e]) (.op (.Cl 1) [S aYg,S aXl,S aWS,S aX6,S aYl,S aXa,S [116,100],S aWU,S [116,104]] λf=>.call 162 [a4 a,f] λh=>.AJ h (.rr [tt]) (.ld q λj=>.ie [j,I 2] λk=>.AJ k (.op (.Cl 1) [S [111,108],S [117,108]] λm=>.call 162 [a4 a,m] λn=>.AJ n (.rr [tt]) (.ld q λo=>.ie [o,I 3] λs=>.AJ s (.op (.Cl 1) [S aWV] λu=>.call 162 [a4 a,u] λw=>.rr [w]) (.rr [ff]))) (.ld q λy=>.ie [y,I 3] λz=>.AJ z (.op (.Cl 1) [S aWV] λa0=>.call 162 [a4 a,a0] λa1=>.rr [a1]) (.rr [ff])))))
def cq:Ff cx 293 aFb:=λ_ _=>by kernel_rfl
def aFc(p q:Aa):IT:=
 .cells 3 q λa=>.ln [p] λb=>.loop 2 [I 0,I 0] (λc=>.il [g c 1,b] λd=>.AJ d (.ea 3 [p,g c 1] λe=>.load (some 3) e λf=>.op (.geq false [.i,.s,.s]) [a3 a,f] λh=>.AJ h (.rr [g c 1,g c 1]) (.ia [g c 1,I 1] λj=>.rn [g c 0,j])) (.rx 0 [g c 0,g c 1])) (lx 0 (λk=>.rr [I (-1)]) λk=>.rr [g k 0])
def cr:Ff cx 307 aFc:=λ_ _=>by kernel_rfl
def WK(p:Aa):IT:=
 .op (.FM false .sl) [p,.slnil] λa=>.AJ a (.rr [.slnil]) (.op (.Cl 3) [] λb=>.JS 3 40 b p λc=>.rr [c])
def t100033_eq:FW cx 100033 WK:=λ_=>by kernel_rfl
def gQ(p:Aa):IT:=
 .BZ p 6 λ_ _ a=>.ln [a] λb=>.ig [b,I 0] λc=>.AJ c (.BZ p 6 λ_ _ d=>.ib [b,I 1] λe=>.op (.PQ 1 false false true) [d,e] λf=>.call 200032 [f] λh=>.fa p 6 λ_ j=>.store 1 j h (.rr [.tuple []])) (.rr [.tuple []])
def t100087_eq:FW cx 100087 gQ:=λ_=>by kernel_rfl
def WL(p:Aa):IT:=
 .op (.FM false .sl) [p,.slnil] λa=>.AJ a (.rr [.slnil]) (.op (.GB 1) [] λb=>.JS 1 8 b p λc=>.rr [c])
def t200032_eq:FW cx 200032 WL:=λ_=>by kernel_rfl
end Go.Am
