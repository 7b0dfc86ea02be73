/- Lemmas -/
import Derived.Test.YtjjnhgoknielgaaGreatDoorW9
import Derived.Test.YtjjnhgoknielgaaGreatDoorW17
set_option linter.all false
namespace Go.Am
open Go
def aGb(p q:Ab):IT:=
 .cells 4 p λa=>.ld q λb=>.ie [g a 0,b] λc=>.rr [c]
def gd:Gi cx 214 aGb:=λ_ _=>AT
def aGc(p q:Ab):IT:=
 .op (.WN false) [p,.ptr none] λa=>.A0 a (.rr [I (-1)]) (.ie [q,I 0] λb=>.A0 b (.rr [I (-1)]) (.Ck p 0 λ_ _ c=>.ln [c] λd=>.ib [d,I 1] λe=>.loop 4 [I 0,e] (λf=>.ih [g f 1,I 0] λh=>.A0 h (.Ck p 0 λ_ _ j=>.ea 3 [j,g f 1] λk=>.fl k 0 λ_ m=>.ie [m,q] λn=>.A0 n (.rr [g f 1,g f 1]) (.ib [g f 1,I 1] λo=>.rn [g f 0,o])) (.rx 0 [g f 0,g f 1])) (lx 0 (λs=>.rr [I (-1)]) λs=>.rr [g s 0])))
def gj:Gi cx 215 aGc:=λ_ _=>AT
def pV(p q:Ab):IT:=
 .fa p 3 λ_ a=>.ca 212 [a,q] λb=>.il [b,I 0] λc=>.A0 c (.ca 86 [p,q] λ_=>.rr [ff]) (.fa p 3 λ_ d=>.fl d 0 λ_ e=>.ea 3 [e,b] λf=>.load (some 3) f λh=>.op (.Dc [I 0,S [],.slnil,I 0,I 0,I 0,I 0,S [],ff,I 0,I 0,S [],ff,I 0] [(0,3),(3,1),(4,1)]) [h,b,b] λj=>.alloc 14 j λk=>.fa k 0 λ_ m=>.fl m 0 λ_ n=>.fa p 2 λ_ o=>.ca 151 [o,n] λs=>.il [s,I 0] λu=>.A0 u (.ca 251 [k,p,b] λ_=>.rr [ff]) (.ie [s,I 0] λw=>.A0 w (.rr [ff]) (.fa p 2 λ_ y=>.ca 218 [y,I 1,n] λz=>.nt [z] λa0=>.A0 a0 (.rr [ff]) (.fa p 2 λ_ a1=>.ca 252 [a1,n] λa2=>.il [a2,I 0] λa5=>.A0 a5 (.fa p 2 λ_ a7=>.ca 166 [a7,n] λ_=>.ca 251 [k,p,b] λ_=>.rr [ff]) (.fa p 2 λ_ a8=>.ib [s,I 1] λb0=>.fa p 2 λ_ b1=>.ca 163 [a8,b0] λb2=>.ca 163 [b1,a2] λb3=>.fa k 5 λ_ b4=>.store 4 b4 b2 (.fa k 9 λ_ b5=>.store 4 b5 b3 (.fa k 9 λ_ b6=>.fl b6 0 λ_ b7=>.fa k 13 λ_ b8=>.store 1 b8 b7 (.ca 253 [p,k,s,a2] λ_=>.fa k 5 λ_ b9=>.fl b9 0 λ_ c0=>.ca 103 [p,c0] λc1=>.op (.ext 0) [c1] λc2=>.op (.ext 1) [c1] λc3=>.Ck k 13 λ_ _ c4=>.ca 106 [p,c4,c2,c3] λ_=>.fa k 0 λ_ c5=>.load (some 3) c5 λc6=>.fa k 9 λ_ c7=>.fl c7 0 λc8 c9=>.ca 153 [c6] λd0=>.ld c8 λd1=>.same c9 d1 (.ca 193 [p,d0,I 1,c9] λd2=>.cells 4 d2 λd3=>.Ck p 0 λ_ _ d4=>.fa k 9 λ_ d5=>.fl d5 0 λ_ d6=>.ca 12 [d4,d6] λd7=>.ln [d7] λd8=>.loop 25 [I 0] (λd9=>.il [g d9 0,d8] λe0=>.A0 e0 (.ea 1 [d7,g d9 0] λe1=>.ld e1 λe2=>.ca 106 [p,e2,g d3 0,I 0] λ_=>.ia [g d9 0,I 1] λe3=>.rn [e3]) (.rx 0 [g d9 0])) (lx 0 (λe4=>.fa k 9 λ_ e5=>.fl e5 0 λ_ e6=>.ca 106 [p,g d3 0,e6,I 0] λ_=>.Ck k 3 λ_ _ e7=>.ca 251 [k,p,e7] λ_=>.fa p 3 λ_ e8=>.fa k 0 λ_ e9=>.fl e9 1 λ_ f0=>.fa k 0 λ_ f1=>.fl f1 2 λ_ f2=>.op (.Dc [I 0,S [],.slnil] [(0,1),(1,1),(2,1)]) [g d3 0,f0,f2] λf3=>.Ck k 4 λ_ _ f4=>.ca 254 [e8,f3,f4] λ_=>.fa p 2 λ_ f5=>.ca 127 [f5,n] λ_=>.fa p 2 λ_ f6=>.fa p 2 λ_ f7=>.fa k 9 λ_ f8=>.fl f8 0 λ_ f9=>.ca 151 [f7,f9] λh0=>.ia [h0,I 1] λh1=>.ca 255 [f6,a4 d3,h1] λ_=>.rr [tt]) λe4=>.rr [ff]))))))))))
def PT:Gi cx 216 pV:=λ_ _=>AT
def aGd(p q r:Ab):IT:=
 .cells 1 r λa=>.ca 256 [p,q,.func (.func 257) [] [.Cd [g a 0]]] λb=>.rr [b]
def gl:Tf cx 217 aGd:=λ_ _ _=>AT
def aGe(p q r:Ab):IT:=
 .cells 1 r λa=>.ca 256 [p,q,.func (.func 258) [] [.Cd [g a 0]]] λb=>.rr [b]
def gm:Tf cx 218 aGe:=λ_ _ _=>AT
def aGf(p q:Ab):IT:=
 .cells 4 p λa=>.iq [g a 1,I 1] λb=>.A0 b (.rr [tt]) (.Bz 220 [g a 2] λc=>.nt [c] λd=>.A0 d (.rr [tt]) (.ld q λe=>.se [g a 2,e] λf=>.rr [f]))
def gp:Gi cx 219 aGf:=λ_ _=>AT
def aGg(p:Ab):IT:=
 .se [p,S [100,100]] λa=>.A0 a (.rr [tt]) (.se [p,S [100,116]] λb=>.A0 b (.rr [tt]) (.se [p,S [108,105]] λc=>.A0 c (.rr [tt]) (.se [p,S aYu] λd=>.A0 d (.rr [tt]) (.se [p,S aX0] λe=>.A0 e (.rr [tt]) (.se [p,S [112]] λf=>.A0 f (.rr [tt]) (.se [p,S [114,98]] λh=>.A0 h (.rr [tt]) (.se [p,S [114,112]] λj=>.A0 j (.rr [tt]) (.se [p,S [114,116]] λk=>.A0 k (.rr [tt]) (.se [p,S aY5] λm=>.A0 m (.rr [tt]) (.rr [ff]))))))))))
def gq:GL cx 220 aGg:=λ_=>AT
def aGh(p q:Ab):IT:=
 .cells 4 p λa=>.ld q λb=>.ie [g a 0,b] λc=>.rr [c]
def gu:Gi cx 221 aGh:=λ_ _=>AT
def aGi(p q:Ab):IT:=
 .ie [p,I 3] λa=>.A0 a (.se [q,S [109,105]] λb=>.A0 b (.rr [tt]) (.se [q,S [109,110]] λc=>.A0 c (.rr [tt]) (.se [q,S [109,111]] λd=>.A0 d (.rr [tt]) (.se [q,S [109,115]] λe=>.A0 e (.rr [tt]) (.se [q,S [109,116,101,120,116]] λf=>.rr [f]))))) (.rr [ff])
def gw:Gi cx 222 aGi:=λ_ _=>AT
def aGj:IT:=
 .op (.Dc [S [],I 0] [(0,1),(1,1)]) [S [116,114],I 14] λa=>.op (.Dc [S [],I 0] [(0,1),(1,1)]) [S aYB,I 13] λb=>.op (.Dc [S [],I 0] [(0,1),(1,1)]) [S aYC,I 13] λc=>.op (.Dc [S [],I 0] [(0,1),(1,1)]) [S aYy,I 13] λd=>.op (.Dc [S [],I 0] [(0,1),(1,1)]) [S aYe,I 11] λe=>.op (.Dc [S [],I 0] [(0,1),(1,1)]) [S aYm,I 12] λf=>.op (.Dc [S [],I 0] [(0,1),(1,1)]) [S aX4,I 9] λh=>.op (.Dc [S [],I 0] [(0,1),(1,1)]) [S aXS,I 7] λj=>.op (.Dc [S [],I 0] [(0,1),(1,1)]) [S aXV,I 20] λk=>.op (.Cb 2) [a,b,c,d,e,f,h,j,k] λm=>.rr [m]
def gx:Cf cx 223 []=aGj:=AT
def aGk(p q:Ab):IT:=
 .ib [q,I 1] λa=>.loop 2 [I 0,a] (λb=>.ih [g b 1,I 0] λc=>.A0 c (.fa p 2 λ_ d=>.ca 163 [d,g b 1] λe=>.op (.Cb 1) [S aXP] λf=>.ca 164 [e,f] λh=>.A0 h (.rx 0 [g b 0,g b 1]) (.fa p 2 λ_ j=>.ca 163 [j,g b 1] λk=>.op (.Cb 1) [S aX4] λm=>.ca 164 [k,m] λn=>.A0 n (.rr [I 17,g b 1]) (.ib [g b 1,I 1] λo=>.rn [g b 0,o]))) (.rx 0 [g b 0,g b 1])) (lx 0 (λs=>.rr [I 16]) λs=>.rr [g s 0])
def gy:Gi cx 224 aGk:=λ_ _=>AT
def aGl(p q:Ab):IT:=
 .ld q λa=>.ln [a] λb=>.loop 2 [ff,I 0] (λc=>.il [g c 1,b] λd=>.A0 d (.ea 1 [a,g c 1] λe=>.ld e λf=>.EJ f [p] λh=>.A0 h (.rr [tt,g c 1]) (.ia [g c 1,I 1] λj=>.rn [g c 0,j])) (.rx 0 [g c 0,g c 1])) (lx 0 (λk=>.rr [ff]) λk=>.rr [g k 0])
def g_:Gi cx 232 aGl:=λ_ _=>AT
def aBt(p q r:Ab):IT:=
 .ld q λa=>.ik [a,p] λb=>.A0 b (.ld r λc=>.ik [p,c] λd=>.rr [d]) (.rr [ff])
def jS:Tf cx 233 aBt:=λ_ _ _=>AT
def aBu(p q:Ab):IT:=
 .ca 22 [p,q] λa=>.nt [a] λb=>.A0 b (.rr [I 0]) (.ca 24 [p,q] λc=>.fa c 0 λ_ d=>.fl d 1 λ_ e=>.rr [e])
def jT:Gi cx 234 aBu:=λ_ _=>AT
def aGm(p q:Ab):IT:=
 .ln [p] λa=>.loop 2 [I 0,I 0] (λb=>.il [g b 1,a] λc=>.A0 c (.ea 1 [p,g b 1] λd=>.ld d λe=>.EJ q [e] λf=>.A0 f (.rr [g b 1,g b 1]) (.ia [g b 1,I 1] λh=>.rn [g b 0,h])) (.rx 0 [g b 0,g b 1])) (lx 0 (λj=>.rr [I (-1)]) λj=>.rr [g j 0])
def h_:Gi cx 235 aGm:=λ_ _=>AT
def aGn(p:Ab):IT:=
 .ca 179 [.int .i32 65,.int .i32 90] λa=>.EJ a [p] λb=>.rr [b]
def ic:GL cx 238 aGn:=λ_=>AT
def aGo(p q:Ab):IT:=
 .ln [p] λa=>.loop 2 [I 0,I 0] (λb=>.il [g b 1,a] λc=>.A0 c (.ea 1 [p,g b 1] λd=>.ld d λe=>.se [q,e] λf=>.A0 f (.rr [g b 1,g b 1]) (.ia [g b 1,I 1] λh=>.rn [g b 0,h])) (.rx 0 [g b 0,g b 1])) (lx 0 (λj=>.rr [I (-1)]) λj=>.rr [g j 0])
def ij:Gi cx 239 aGo:=λ_ _=>AT
def aGp(p:Ab):IT:=
 .loop 5 [I 0,I 1,.int .u8 0,I 0] (λa=>.lt [p] λb=>.il [g a 3,b] λc=>.A0 c (.op .Wg [p,g a 3] λd=>.op (.int .or) [g a 2,d] λe=>.op (.Vv 256 1) [.Cd HE,d] λf=>.ld f λh=>.op (.conv .i64) [h] λj=>.op (.un .xor) [j] λk=>.op (.int .and) [g a 1,k] λm=>.ia [g a 0,m] λn=>.ia [g a 3,I 1] λo=>.rn [n,j,e,o]) (.rx 0 [g a 0,g a 1,g a 2,g a 3])) (lx 0 (λs=>.ih [g s 2,.int .u8 128] λu=>.A0 u (.ca 271 [p,.func (.func 272) [] []] λw=>.UF w λy=>.rr [y]) (.make 1 16 [S []] (g s 0) (g s 0) λz=>.loop 18 [I 0] (λa0=>.lt [p] λa1=>.il [g a0 0,a1] λa2=>.A0 a2 (.op .Wg [p,g a0 0] λa5=>.op (.Vv 256 1) [.Cd HE,a5] λa7=>.ld a7 λa8=>.iq [a8,.int .u8 0] λb0=>.A0 b0 (.ia [g a0 0,I 1] λb1=>.rn [b1]) (.rx 2 [g a0 0])) (.rx 2 [g a0 0])) (lx 2 (λb2=>.loop 21 [I 0,g b2 0,g b2 0] (λb3=>.lt [p] λb4=>.il [g b3 2,b4] λb5=>.A0 b5 (.op .Wg [p,g b3 2] λb6=>.op (.Vv 256 1) [.Cd HE,b6] λb7=>.ld b7 λb8=>.ie [b8,.int .u8 0] λb9=>.A0 b9 (.ia [g b3 2,I 1] λc1=>.rn [g b3 0,g b3 1,c1]) (.op (.Ro 0 true true true) [p,g b3 1,g b3 2] λc2=>.ea 1 [z,g b3 0] λc3=>.store 1 c3 c2 (.ia [g b3 0,I 1] λc4=>.ia [g b3 2,I 1] λc5=>.loop 27 [c5] (λc6=>.lt [p] λc7=>.il [g c6 0,c7] λc8=>.A0 c8 (.op .Wg [p,g c6 0] λc9=>.op (.Vv 256 1) [.Cd HE,c9] λd0=>.ld d0 λd1=>.iq [d1,.int .u8 0] λd2=>.A0 d2 (.ia [g c6 0,I 1] λd3=>.rn [d3]) (.rx 6 [g c6 0])) (.rx 6 [g c6 0])) (λx d4=>match x with| .normal=>.fail| .exit i=>if i=6 then .rn [c4,g d4 0,g d4 0] else if i=5 then .rn [c4,g b3 1,g d4 0] else .ret (.exit i) [c4,g b3 1,g d4 0]| .ret=>.rr [c4,g b3 1,g d4 0])))) (.rx 4 [g b3 0,g b3 1,g b3 2])) (lx 4 (λd5=>.lt [p] λd6=>.il [g d5 1,d6] λd7=>.A0 d7 (.op (.Ro 0 true true false) [p,g d5 1] λd8=>.ea 1 [z,g d5 0] λd9=>.store 1 d9 d8 (.UF z λe0=>.rr [e0])) (.UF z λe1=>.rr [e1])) λd5=>.UF .slnil λe2=>.rr [e2])) λb2=>.UF .slnil λe3=>.rr [e3]))) λs=>.UF .slnil λe4=>.rr [e4])
def ir:GL cx 240 aGp:=λ_=>AT
def aGq(p q:Ab):IT:=
 .Oy λa=>.op (.Dc [I 0,S [],S []] [(0,1),(1,1)]) [I 4,S aZl] λb=>.Iw a (S aYL) b (.op (.Dc [I 0,S [],S []] [(0,1),(1,1)]) [I 4,S aZj] λc=>.Iw a (S aYJ) c (.op (.Dc [I 0,S [],S []] [(0,1),(1,1)]) [I 4,S aZN] λd=>.Iw a (S aYQ) d (.op (.Dc [I 0,S [],S []] [(0,1),(1,1)]) [I 4,S aZO] λe=>.Iw a (S aYR) e (.op (.Dc [I 0,S [],S []] [(0,1),(1,1)]) [I 4,S aZP] λf=>.Iw a (S aYS) f (.op (.Dc [I 0,S [],S []] [(0,1),(1,1)]) [I 4,S aX7] λh=>.Iw a (S aYM) h (.op (.Dc [I 0,S [],S []] [(0,1),(1,1)]) [I 4,S aYW] λj=>.Iw a (S aYT) j (.op (.Dc [I 0,S [],S []] [(0,1),(1,1)]) [I 5,S [108,97,110,103]] λk=>.Iw a (S aY8) k (.op (.Dc [I 0,S [],S []] [(0,1),(1,1)]) [I 5,S aZG] λm=>.Iw a (S aY1) m (.op (.Dc [I 0,S [],S []] [(0,1),(1,1)]) [I 6,S aYP] λn=>.Iw a (S aYP) n (.op (.Dc [I 0,S [],S []] [(0,1),(1,1)]) [I 6,S aZA] λo=>.Iw a (S aYN) o (.ln [q] λs=>.loop 4 [.slnil,I 0] (λu=>.il [g u 1,s] λw=>.A0 w (.ea 3 [q,g u 1] λy=>.load (some 3) y λz=>.cells 3 z λa0=>.op (.Dc [I 0,S [],S []] [(1,1),(2,1)]) [g a0 1,g a0 2] λa1=>.cells 3 a1 λa2=>.ie [p,I 2] λa5=>.GY 100036 (.A0 a5 (.Bz 273 [g a0 1] λa7=>.cells 1 a7 λa8=>.rn [.agg [g a2 0,g a8 0,g a2 2]]) (.GY 200009 (.ie [p,I 3] λb0=>.A0 b0 (.se [g a0 1,S aY0] λb1=>.rn [b1]) (.rn [ff])) (λx b2=>match x with| .normal=>.GY 100043 (.A0 (g b2 0) (.cells 1 (S aY2) λb3=>.rn [.agg [g a2 0,g b3 0,g a2 2]]) (.rn [a3 a2])) (λx b4=>.cells 3 (g b4 0) λb5=>.ret x [a3 b5])| .exit i=>.ret (.exit i) [a3 a2]| .ret=>.rr [a3 a2]))) (λx b6=>.cells 3 (g b6 0) λb7=>match x with| .normal=>.M8 (.agg [I 0,S [],S []]) true a (g b7 1) λb8=>.op (.ext 0) [b8] λb9=>.op (.ext 1) [b8] λc0=>.cells 3 b9 λc1=>.GY 200012 (.A0 c0 (.ie [p,I 2] λc2=>.A0 c2 (.rn [tt]) (.ie [p,I 3] λc3=>.rn [c3])) (.rn [ff])) (λx c4=>match x with| .normal=>.GY 100067 (.A0 (g c4 0) (.cells 1 (g c1 0) λc5=>.cells 1 (g c1 1) λc6=>.rn [.agg [g c5 0,g c6 0,g b7 2]]) (.rn [a3 b7])) (λx c7=>.cells 3 (g c7 0) λc8=>match x with| .normal=>.op (.Cb 3) [a3 c8] λc9=>.op (.append 3 40) [g u 0,c9] λd0=>.ia [g u 1,I 1] λd1=>.rn [d0,d1]| .exit i=>if i=1 then .ia [g u 1,I 1] λd2=>.rn [g u 0,d2] else .ret (.exit i) [g u 0,g u 1]| .ret=>.rr [g u 0,g u 1])| .exit i=>if i=1 then .ia [g u 1,I 1] λd3=>.rn [g u 0,d3] else .ret (.exit i) [g u 0,g u 1]| .ret=>.rr [g u 0,g u 1])| .exit i=>if i=2 then .M8 (.agg [I 0,S [],S []]) true a (g b7 1) λd4=>.op (.ext 0) [d4] λd5=>.op (.ext 1) [d4] λd6=>.cells 3 d5 λd7=>.GY 200012 (.A0 d6 (.ie [p,I 2] λd8=>.A0 d8 (.rn [tt]) (.ie [p,I 3] λd9=>.rn [d9])) (.rn [ff])) (λx e0=>match x with| .normal=>.GY 100067 (.A0 (g e0 0) (.cells 1 (g d7 0) λe1=>.cells 1 (g d7 1) λe2=>.rn [.agg [g e1 0,g e2 0,g b7 2]]) (.rn [a3 b7])) (λx e3=>.cells 3 (g e3 0) λe4=>match x with| .normal=>.op (.Cb 3) [a3 e4] λe5=>.op (.append 3 40) [g u 0,e5] λe6=>.ia [g u 1,I 1] λe7=>.rn [e6,e7]| .exit i=>if i=1 then .ia [g u 1,I 1] λe8=>.rn [g u 0,e8] else .ret (.exit i) [g u 0,g u 1]| .ret=>.rr [g u 0,g u 1])| .exit i=>if i=1 then .ia [g u 1,I 1] λe9=>.rn [g u 0,e9] else .ret (.exit i) [g u 0,g u 1]| .ret=>.rr [g u 0,g u 1]) else if i=1 then .ia [g u 1,I 1] λf0=>.rn [g u 0,f0] else .ret (.exit i) [g u 0,g u 1]| .ret=>.rr [g u 0,g u 1])) (.rx 0 [g u 0,g u 1])) (lx 0 (λf1=>.rr [g f1 0]) λf1=>.rr [.slnil]))))))))))))
def iu:Gi cx 241 aGq:=λ_ _=>AT
def aGr(p:Ab):IT:=
 .Bz 274 [p,S aXK] λa=>.rr [a]
def iv:GL cx 242 aGr:=λ_=>AT
def aBv(p q r u w:Ab):IT:=
 .ca 107 [p,q] λa=>.iq [a,I 0] λb=>.A0 b (.rr [.tuple [I 0,a]]) (.ca 275 [w] λc=>.op (.ext 0) [c] λd=>.op (.ext 1) [c] λe=>.nt [e] λf=>.A0 f (.rr [.tuple [I 0,I 2]]) (.op (.Cb 1) [r] λh=>.ca 276 [h] λj=>.nt [j] λk=>.A0 k (.rr [.tuple [I 0,I 2]]) (.op (.Dc [I 0,I 0,.slnil,I 0,I 0,S [],.slnil,S [],S [],S [],ff,I 0,I 0] [(0,1),(3,1),(4,1),(5,1),(6,1)]) [I 4,q,r,u,d] λm=>.ca 38 [p,m] λn=>.ca 24 [p,n] λo=>.ca 277 [o] λs=>.A0 s (.ca 278 [p,q] λy=>.op (.Dc [I 0,I 0,.slnil,I 0,I 0,S [],.slnil,S [],S [],S [],ff,I 0,I 0] [(0,1),(12,1),(3,1)]) [I 2,n,y] λz=>.ca 38 [p,z] λa0=>.ca 24 [p,n] λa1=>.fa a1 0 λ_ a2=>.op (.GC 11) [a2] λa5=>.store 1 a5 a0 (.rr [.tuple [n,I 0]])) (.rr [.tuple [n,I 0]]))))
def jU:Tq5 cx 243 aBv:=λ_ _ _ _ _=>AT
def aBw(p q:Ab):IT:=
 .ca 104 [p,q] λa=>.cells 13 a λb=>.iq [g b 11,I 0] λc=>.A0 c (.ca 104 [p,g b 11] λd=>.cells 13 d λe=>.iq [g e 3,I 0] λf=>.A0 f (.rr [g e 3]) (.Ck p 1 λ_ _ h=>.rr [h])) (.iq [g b 3,I 0] λj=>.A0 j (.rr [g b 3]) (.Ck p 1 λ_ _ k=>.rr [k]))
def jV:Gi cx 244 aBw:=λ_ _=>AT
def aGs(p q r:Ab):IT:=
 .ie [p,I 2] λa=>.A0 a (.Bz 167 [p,q] λb=>.rr [b]) (.iq [p,I 3] λc=>.A0 c (.rr [ff]) (.op (.str .neq) [q,S aX5] λd=>.A0 d (.rr [ff]) (.ca 279 [r,.func (.func 280) [] []] λe=>.ih [e,I 0] λf=>.A0 f (.ea 3 [r,e] λh=>.fl h 2 λ_ j=>.Bz 113 [j,S aZt] λk=>.A0 k (.rr [tt]) (.ea 3 [r,e] λm=>.fl m 2 λ_ n=>.Bz 113 [n,S aYF] λo=>.rr [o])) (.rr [ff]))))
def iw:Tf cx 245 aGs:=λ_ _ _=>AT
def aGt(p q:Ab):IT:=
 .cells 3 q λa=>.op (.WN false) [p,.ptr none] λb=>.A0 b (.rr [.tuple []]) (.iq [g a 0,I 0] λc=>.GY 100011 (.A0 c (.Ck p 0 λ_ _ d=>.ln [d] λe=>.ib [e,I 1] λf=>.loop 5 [I 0,I 0,f] (λh=>.ca 172 [p] λj=>.ih [g h 2,j] λk=>.A0 k (.Ck p 0 λ_ _ m=>.ea 3 [m,g h 2] λn=>.load (some 3) n λo=>.ca 281 [o,a3 a] λs=>.GY 100032 (.A0 s (.ia [g h 1,I 1] λu=>.rn [g h 2,u]) (.rn [g h 0,g h 1])) (λx w=>match x with| .normal=>.ib [g h 2,I 1] λy=>.rn [g w 0,g w 1,y]| .exit i=>if i=1 then .ib [g h 2,I 1] λz=>.rn [g w 0,g w 1,z] else .ret (.exit i) [g w 0,g w 1,g h 2]| .ret=>.rr [g w 0,g w 1,g h 2])) (.rx 0 [g h 0,g h 1,g h 2])) (λx a0=>match x with| .normal=>.fail| .exit i=>if i=0 then .ih [g a0 1,I 3] λa1=>.GY 100037 (.A0 a1 (.Ck p 0 λ_ _ a2=>.ca 250 [a2,g a0 0] λa5=>.fa p 0 λ_ a7=>.store 1 a7 a5 (.rn [])) (.rn [])) (λx _=>.ret x []) else .ret (.exit i) []| .ret=>.rr [])) (.rn [])) (nx (λa8=>.Ck p 0 λ_ b0 b1=>.Ck p 0 λ_ b2 b3=>.ln [b3] λb4=>.ca 282 [a3 a] λb5=>.ld b2 λb6=>.same b3 b6 (.ld b0 λb7=>.same b1 b7 (.ca 123 [b1,b5,b4] λb8=>.fa p 0 λ_ b9=>.store 1 b9 b8 (.rr [.tuple []])))) λa8=>.rr [.tuple []]))
def ix:Gi cx 246 aGt:=λ_ _=>AT
def aBx(p q:Ab):IT:=
 .ca 279 [p,q] λa=>.ih [a,I 0] λb=>.rr [b]
def jW:Gi cx 247 aBx:=λ_ _=>AT
def aGu(p q:Ab):IT:=
 .cells 3 p λa=>.ie [g a 0,I 0] λb=>.A0 b (.fl q 1 λ_ c=>.se [g a 1,c] λd=>.rr [d]) (.rr [ff])
def iy:Gi cx 248 aGu:=λ_ _=>AT
def aGv(p q r:Ab):IT:=
 .op (.Cb 1) [q] λa=>.ca 25 [p,a] λb=>.iq [b,I 0] λc=>.A0 c (.rr [b]) (.ca 24 [p,q] λd=>.fa d 0 λ_ e=>.fl e 0 λ_ f=>.iq [f,I 4] λh=>.A0 h (.rr [I 9]) (.ca 275 [r] λj=>.op (.ext 0) [j] λk=>.op (.ext 1) [j] λm=>.nt [m] λn=>.A0 n (.rr [I 2]) (.fa d 0 λ_ o=>.op (.GC 6) [o] λs=>.store 1 s k (.rr [I 0]))))
def iz:Tf cx 249 aGv:=λ_ _ _=>AT
def aGw(p q:Ab):IT:=
 .op (.Ro 3 false false true) [p,q] λa=>.op (.append 3 48) [.slnil,a] λb=>.ia [q,I 1] λc=>.op (.Ro 3 false true false) [p,c] λd=>.op (.append 3 48) [b,d] λe=>.rr [e]
def i_:Gi cx 250 aGw:=λ_ _=>AT
def aGx(p q r:Ab):IT:=
 .fa q 3 λ_ a=>.fl a 0 λ_ b=>.ca 152 [b] λc=>.ia [r,I 1] λd=>.ca 283 [c,r,d] λe=>.fa q 3 λ_ f=>.op (.GC 0) [f] λh=>.store 1 h e (.Ck p 3 λ_ _ j=>.il [r,j] λk=>.A0 k (.Ck p 3 λ_ _ m=>.ib [m,I 1] λn=>.fa p 3 λ_ o=>.store 1 o n (.Ck p 4 λ_ _ s=>.il [r,s] λu=>.A0 u (.Ck p 4 λ_ _ w=>.ib [w,I 1] λy=>.fa p 4 λ_ z=>.store 1 z y (.Ja 3 q (.rr [.tuple []]))) (.Ja 3 q (.rr [.tuple []])))) (.Ck p 4 λ_ _ a0=>.il [r,a0] λa1=>.A0 a1 (.Ck p 4 λ_ _ a2=>.ib [a2,I 1] λa5=>.fa p 4 λ_ a7=>.store 1 a7 a5 (.Ja 3 q (.rr [.tuple []]))) (.Ja 3 q (.rr [.tuple []]))))
def ja:Tf cx 251 aGx:=λ_ _ _=>AT
def aGy(p q:Ab):IT:=
 .ca 151 [p,q] λa=>.ia [a,I 1] λb=>.loop 3 [I 0,b] (λc=>.ih [a,I 0] λd=>.A0 d (.ca 121 [p] λe=>.il [g c 1,e] λf=>.A0 f (.Ck p 0 λ_ _ h=>.ea 4 [h,g c 1] λj=>.fl j 1 λ_ k=>.Ck p 0 λ_ _ m=>.ea 4 [m,g c 1] λn=>.fl n 2 λ_ o=>.Bz 167 [k,o] λs=>.A0 s (.rr [g c 1,g c 1]) (.ia [g c 1,I 1] λu=>.rn [g c 0,u])) (.rx 0 [g c 0,g c 1])) (.rx 0 [g c 0,g c 1])) (lx 0 (λw=>.rr [I (-1)]) λw=>.rr [g w 0])
def jb:Gi cx 252 aGy:=λ_ _=>AT
def aGz(p q r u:Ab):IT:=
 .ib [u,I 1] λa=>.loop 2 [I 0,a] (λb=>.ig [g b 1,r] λc=>.A0 c (.fa p 2 λ_ d=>.ca 163 [d,g b 1] λe=>.cells 4 e λf=>.ia [g b 0,I 1] λh=>.fa p 3 λ_ j=>.ca 215 [j,g f 0] λk=>.GY 200007 (.ig [h,I 3] λm=>.A0 m (.ih [k,I 0] λn=>.rn [n]) (.rn [ff])) (λx o=>match x with| .normal=>.GY 100039 (.A0 (g o 0) (.ca 251 [q,p,k] λ_=>.fa p 3 λ_ s=>.ca 215 [s,g f 0] λw=>.rn [w]) (.rn [k])) (λx y=>match x with| .normal=>.il [g y 0,I 0] λz=>.A0 z (.fa p 2 λ_ a0=>.ca 127 [a0,g f 0] λ_=>.ib [g b 1,I 1] λa1=>.rn [h,a1]) (.fa p 3 λ_ a2=>.fl a2 0 λ_ a5=>.ea 3 [a5,g y 0] λa7=>.load (some 3) a7 λa8=>.cells 3 a8 λb0=>.fa q 5 λ_ b1=>.fl b1 0 λb2 b3=>.ca 153 [a3 b0] λb4=>.ld b2 λb5=>.same b3 b5 (.ca 193 [p,b4,I 1,b3] λb6=>.cells 4 b6 λb7=>.fa p 2 λ_ b8=>.ca 284 [b8,g f 0,a4 b7] λ_=>.fa p 3 λ_ b9=>.op (.Dc [I 0,S [],.slnil] [(0,1),(1,1),(2,1)]) [g b7 0,g b0 1,g b0 2] λc0=>.ca 285 [b9,g f 0,c0] λ_=>.Ck q 13 λ_ _ c2=>.fa q 9 λ_ c3=>.fl c3 0 λ_ c4=>.ie [c2,c4] λc5=>.GY 100104 (.A0 c5 (.ia [g y 0,I 1] λc7=>.fa q 4 λ_ c8=>.store 1 c8 c7 (.rn [])) (.rn [])) (λx _=>match x with| .normal=>.Ck q 13 λ_ _ c9=>.ca 106 [p,c9,g b7 0,I 0] λ_=>.fa q 13 λ_ d0=>.store 1 d0 (g b7 0) (.ib [g b 1,I 1] λd1=>.rn [h,d1])| .exit i=>if i=1 then .ib [g b 1,I 1] λd2=>.rn [h,d2] else .ret (.exit i) [h,g b 1]| .ret=>.rr [h,g b 1])))| .exit i=>if i=1 then .ib [g b 1,I 1] λd3=>.rn [h,d3] else .ret (.exit i) [h,g b 1]| .ret=>.rr [h,g b 1])| .exit i=>if i=1 then .ib [g b 1,I 1] λd4=>.rn [h,d4] else .ret (.exit i) [h,g b 1]| .ret=>.rr [h,g b 1])) (.rx 0 [g b 0,g b 1])) (lx 0 (λd5=>.rr [.tuple []]) λd5=>.rr [.tuple []])
def jc:Tq4 cx 253 aGz:=λ_ _ _ _=>AT
def aGA(p q r:Ab):IT:=
 .cells 3 q λa=>.op (.WN true) [p,.ptr none] λb=>.A0 b (.Ck p 0 λ_ c d=>.op (.MA true) [r,I 0] λe=>.Ck p 0 λ_ f h=>.ln [h] λj=>.op (.MA false) [e,j] λk=>.ca 282 [a3 a] λm=>.ld f λn=>.same h n (.ld c λo=>.same d o (.ca 123 [d,m,k] λs=>.fa p 0 λ_ u=>.store 1 u s (.rr [.tuple []])))) (.rr [.tuple []])
def jd:Tf cx 254 aGA:=λ_ _ _=>AT
def aGB(p q r:Ab):IT:=
 .cells 4 q λa=>.op (.WN true) [p,.ptr none] λb=>.A0 b (.Ck p 0 λ_ _ c=>.op (.MA true) [r,I 1] λd=>.Ck p 0 λ_ _ e=>.ln [e] λf=>.op (.MA false) [d,f] λh=>.ca 199 [c,a4 a,h] λj=>.fa p 0 λ_ k=>.store 1 k j (.rr [.tuple []])) (.rr [.tuple []])
def je:Tf cx 255 aGB:=λ_ _ _=>AT
def aGC(p q r:Ab):IT:=
 .cells 1 r λa=>.ca 286 [q] λb=>.cells 1 b λc=>.ca 195 [p,.func (.func 287) [] [.Cd [g a 0],.Cd [g c 0]]] λd=>.ih [d,I 0] λe=>.A0 e (.ld (.Cd [g a 0]) λf=>.Ck p 0 λ_ _ h=>.ea 4 [h,d] λj=>.load (some 4) j λk=>.EJ f [k] λm=>.rr [m]) (.rr [ff])
def jf:Tf cx 256 aGC:=λ_ _ _=>AT
def aGD(p q:Ab):IT:=
 .cells 4 p λa=>.ld q λb=>.ca 171 [a4 a,b] λc=>.rr [c]
def jg:Gi cx 257 aGD:=λ_ _=>AT
def aGE(p q:Ab):IT:=
 .cells 4 p λa=>.ld q λb=>.ie [g a 0,b] λc=>.rr [c]
def jh:Gi cx 258 aGE:=λ_ _=>AT
def aJ6(p q:Ab):IT:=
 .make 2 16 [I 0,I 0] i0 (I 32) λ_=>.fail
def aBy:Gi cx 271 aJ6:=λ_ _=>AT
def aGF(p:Ab):IT:=
 .Bz 274 [p,S aXJ] λa=>.rr [a]
def ji:GL cx 273 aGF:=λ_=>AT
def aGG(p q:Ab):IT:=
 .ca 240 [q] λa=>.ln [a] λb=>.loop 2 [S [],I 0] (λc=>.il [g c 1,b] λd=>.A0 d (.ea 1 [a,g c 1] λe=>.ld e λf=>.Bz 188 [f] λh=>.se [h,p] λj=>.A0 j (.rr [f,g c 1]) (.ia [g c 1,I 1] λk=>.rn [g c 0,k])) (.rx 0 [g c 0,g c 1])) (lx 0 (λm=>.rr [p]) λm=>.rr [g m 0])
def jj:Gi cx 274 aGG:=λ_ _=>AT
def aGH(p:Ab):IT:=
 .ln [p] λa=>.loop 3 [.slnil,ff,.slnil,I 0] (λb=>.il [g b 3,a] λc=>.A0 c (.ea 3 [p,g b 3] λd=>.load (some 3) d λe=>.cells 3 e λf=>.op (.Cb 1) [g f 0] λh=>.ca 276 [h] λj=>.nt [j] λk=>.A0 k (.rr [.slnil,ff,g b 2,g b 3]) (.ca 247 [g b 2,.func (.func 297) [] [.Cd [g f 0,g f 1,g f 2]]] λm=>.nt [m] λn=>.A0 n (.load (some 3) (.Cd [g f 0,g f 1,g f 2]) λo=>.op (.Cb 3) [o] λs=>.op (.append 3 40) [g b 2,s] λu=>.ia [g b 3,I 1] λw=>.rn [g b 0,g b 1,u,w]) (.ia [g b 3,I 1] λy=>.rn [g b 0,g b 1,g b 2,y]))) (.rx 0 [g b 0,g b 1,g b 2,g b 3])) (lx 0 (λz=>.rr [.tuple [g z 2,tt]]) λz=>.rr [.tuple [g z 0,g z 1]])
def jk:GL cx 275 aGH:=λ_=>AT
def aGI(p:Ab):IT:=
 .ln [p] λa=>.loop 2 [ff,I 0] (λb=>.il [g b 1,a] λc=>.A0 c (.ea 1 [p,g b 1] λd=>.ld d λe=>.il [e,I 0] λf=>.A0 f (.rr [ff,g b 1]) (.ig [e,I 7] λh=>.A0 h (.rr [ff,g b 1]) (.ia [g b 1,I 1] λj=>.rn [g b 0,j]))) (.rx 0 [g b 0,g b 1])) (lx 0 (λk=>.rr [tt]) λk=>.rr [g k 0])
def jl:GL cx 276 aGI:=λ_=>AT
def aGJ(p:Ab):IT:=
 .fa p 0 λ_ a=>.fl a 0 λ_ b=>.ie [b,I 4] λc=>.A0 c (.fa p 0 λ_ d=>.fl d 4 λ_ e=>.ie [e,I 1] λf=>.A0 f (.fa p 0 λ_ h=>.fl h 5 λ_ j=>.se [j,S aXP] λk=>.rr [k]) (.rr [ff])) (.rr [ff])
def jm:GL cx 277 aGJ:=λ_=>AT
def ċ(p q:Ab):IT:=
 .Ck p 1 λ_ _ a=>.mem (.ov i0 true) [a,q] λb=>.op (.ext 0) [b] λc=>.op (.ext 1) [b] λd=>.A0 d (.rr [c]) (.ca 32 [p,ff] λe=>.Ck p 1 λ_ _ f=>.op (.Gs false .mp) [f,.map none] λh=>.A0 h (.Oy λj=>.fa p 1 λ_ k=>.store 1 k j (.Ck p 1 λ_ _ m=>.Ck p 1 λ_ _ n=>.mem (.Ph i0) [m,q] λo=>.op (.ext 1) [o] λs=>.mem .Lo [m,s,e] λ_=>.mem (.Ph i0) [n,e] λu=>.op (.ext 1) [u] λw=>.mem .Lo [n,w,e] λ_=>.rr [e])) (.Ck p 1 λ_ _ y=>.Ck p 1 λ_ _ z=>.mem (.Ph i0) [y,q] λa0=>.op (.ext 1) [a0] λa1=>.mem .Lo [y,a1,e] λ_=>.mem (.Ph i0) [z,e] λa2=>.op (.ext 1) [a2] λa5=>.mem .Lo [z,a5,e] λ_=>.rr [e]))
def Xe:Gi cx 278 ċ:=λ_ _=>AT
def Č(p q:Ab):IT:=
 .ln [p] λa=>.loop 2 [I 0,I 0] (λb=>.il [g b 1,a] λc=>.A0 c (.ea 3 [p,g b 1] λd=>.load (some 3) d λe=>.EJ q [e] λf=>.A0 f (.rr [g b 1,g b 1]) (.ia [g b 1,I 1] λh=>.rn [g b 0,h])) (.rx 0 [g b 0,g b 1])) (lx 0 (λj=>.rr [I (-1)]) λj=>.rr [g j 0])
def Xf:Gi cx 279 Č:=λ_ _=>AT
def aGK(p:Ab):IT:=
 .cells 3 p λa=>.ie [g a 0,I 0] λb=>.A0 b (.se [g a 1,S aZz] λc=>.rr [c]) (.rr [ff])
def jn:GL cx 280 aGK:=λ_=>AT
def aGL(p q:Ab):IT:=
 .cells 3 p λa=>.cells 3 q λb=>.se [g a 1,g b 1] λc=>.A0 c (.ln [g a 2] λd=>.ln [g b 2] λe=>.ie [d,e] λf=>.A0 f (.EJ (.func (.func 298) [] []) [g a 2,g b 2] λh=>.A0 h (.EJ (.func (.func 298) [] []) [g b 2,g a 2] λj=>.rr [j]) (.rr [ff])) (.rr [ff])) (.rr [ff])
def jo:Gi cx 281 aGL:=λ_ _=>AT
def aGM(p:Ab):IT:=
 .cells 3 p λa=>.ca 35 [g a 2] λb=>.cells 1 b λc=>.cells 3 (.agg [g a 0,g a 1,g c 0]) λd=>.rr [a3 d]
def jq:GL cx 282 aGM:=λ_=>AT
def aGN(p q r:Ab):IT:=
 .ln [p] λa=>.mem (.sN 3) [p,q,r,a] λ_=>.ie [q,r] λb=>.A0 b (.rr [p]) (.ln [p] λc=>.op (.Ro 3 false false true) [p,q] λd=>.op (.Ro 3 false true false) [p,r] λe=>.GZ 3 48 d e λf=>.ln [f] λh=>.mem (.ou 3 true true) [f,h,c] λj=>.mem (.clear 3 [I 0,S [],.slnil]) [j] λ_=>.rr [f])
def jr:Tf cx 283 aGN:=λ_ _ _=>AT
def aBz(p q r:Ab):IT:=
 .cells 4 r λa=>.ca 151 [p,q] λb=>.il [b,I 1] λc=>.A0 c (.Ja 0 p (.rr [ff])) (.Ck p 0 λ_ _ d=>.ca 301 [d] λe=>.fa p 0 λ_ f=>.store 1 f e (.Ck p 0 λ_ _ h=>.ea 4 [h,b] λj=>.store 4 j (a4 a) (.Ja 0 p (.rr [tt]))))
def jX:Tf cx 284 aBz:=λ_ _ _=>AT
def aBA(p q r:Ab):IT:=
 .cells 3 r λa=>.ca 215 [p,q] λb=>.il [b,I 0] λc=>.A0 c (.Ja 0 p (.rr [ff])) (.Ck p 0 λ_ _ d=>.ca 152 [d] λe=>.fa p 0 λ_ f=>.store 1 f e (.Ck p 0 λ_ h j=>.ca 282 [a3 a] λk=>.ld h λm=>.same j m (.ea 3 [j,b] λn=>.store 3 n k (.Ja 0 p (.rr [tt])))))
def jY:Tf cx 285 aBA:=λ_ _ _=>AT
def č(p:Ab):IT:=
 .cells 1 p λa=>.ie [g a 0,I 4] λb=>.A0 b (.rr [.func (.func 302) [] []]) (.ie [g a 0,I 5] λc=>.A0 c (.rr [.func (.func 303) [] []]) (.rr [.func (.func 304) [] [.Cd [g a 0]]]))
def Xg:GL cx 286 č:=λ_=>AT
def aGO(p q r:Ab):IT:=
 .cells 4 p λa=>.ld q λb=>.EJ b [a4 a] λc=>.A0 c (.rr [tt]) (.ld r λd=>.EJ d [a4 a] λe=>.rr [e])
def js:Tf cx 287 aGO:=λ_ _ _=>AT
def aGP(p q:Ab):IT:=
 .cells 3 p λa=>.fl q 0 λ_ b=>.ie [b,g a 0] λc=>.A0 c (.fl q 1 λ_ d=>.se [d,g a 1] λe=>.rr [e]) (.rr [ff])
def jt:Gi cx 297 aGP:=λ_ _=>AT
def aGQ(p q:Ab):IT:=
 .cells 1 q λa=>.ca 247 [p,.func (.func 299) [] [.Cd [g a 0]]] λb=>.nt [b] λc=>.rr [c]
def ju:Gi cx 298 aGQ:=λ_ _=>AT
def aGR(p q:Ab):IT:=
 .cells 3 p λa=>.ld q λb=>.ca 300 [b,a3 a] λc=>.nt [c] λd=>.rr [d]
def jv:Gi cx 299 aGR:=λ_ _=>AT
def aGS(p q:Ab):IT:=
 .cells 3 q λa=>.ca 316 [p,a3 a] λb=>.ih [b,I 0] λc=>.rr [c]
def jw:Gi cx 300 aGS:=λ_ _=>AT
def aGT(p:Ab):IT:=
 .op (.Gs false .sl) [p,.slnil] λa=>.A0 a (.rr [.slnil]) (.op (.Cb 4) [] λb=>.Ks 4 40 b p λc=>.rr [c])
def jx:GL cx 301 aGT:=λ_=>AT
def aGU(p:Ab):IT:=
 .cells 4 p λa=>.op (.Cb 1) [S aXM,S aX4,S aXP] λb=>.ca 171 [a4 a,b] λc=>.rr [c]
def jy:GL cx 302 aGU:=λ_=>AT
def aGV(p:Ab):IT:=
 .cells 4 p λa=>.op (.Cb 1) [S aYu,S aX0] λb=>.ca 171 [a4 a,b] λc=>.nt [c] λd=>.rr [d]
def jz:GL cx 303 aGV:=λ_=>AT
def aGW(p q:Ab):IT:=
 .cells 4 p λa=>.ie [g a 1,I 3] λb=>.A0 b (.Bz 167 [g a 1,g a 2] λc=>.rr [c]) (.ie [g a 1,I 2] λd=>.A0 d (.Bz 167 [g a 1,g a 2] λe=>.rr [e]) (.op (.Cb 1) [S aY6,S aYe,S aXM,S aYX,S aZa,S aX4,S [116,100],S aXP,S [116,104]] λf=>.ca 171 [a4 a,f] λh=>.A0 h (.rr [tt]) (.ld q λj=>.ie [j,I 2] λk=>.A0 k (.op (.Cb 1) [S [111,108],S [117,108]] λm=>.ca 171 [a4 a,m] λn=>.A0 n (.rr [tt]) (.ld q λo=>.ie [o,I 3] λs=>.A0 s (.op (.Cb 1) [S aXQ] λu=>.ca 171 [a4 a,u] λw=>.rr [w]) (.rr [ff]))) (.ld q λy=>.ie [y,I 3] λz=>.A0 z (.op (.Cb 1) [S aXQ] λa0=>.ca 171 [a4 a,a0] λa1=>.rr [a1]) (.rr [ff])))))
def j_:Gi cx 304 aGW:=λ_ _=>AT
def aGX(p q:Ab):IT:=
 .cells 3 q λa=>.ln [p] λb=>.loop 2 [I 0,I 0] (λc=>.il [g c 1,b] λd=>.A0 d (.ea 3 [p,g c 1] λe=>.load (some 3) e λf=>.op (.geq false [.i,.s,.s]) [a3 a,f] λh=>.A0 h (.rr [g c 1,g c 1]) (.ia [g c 1,I 1] λj=>.rn [g c 0,j])) (.rx 0 [g c 0,g c 1])) (lx 0 (λk=>.rr [I (-1)]) λk=>.rr [g k 0])
def kb:Gi cx 316 aGX:=λ_ _=>AT
def Xh(p:Ab):IT:=
 .op (.Gs false .sl) [p,.slnil] λa=>.A0 a (.rr [.slnil]) (.op (.Cb 3) [] λb=>.Ks 3 40 b p λc=>.rr [c])
def SP:GL cx 100035 Xh:=λ_=>AT
def jZ(p:Ab):IT:=
 .Ck p 6 λ_ _ a=>.ln [a] λb=>.ig [b,I 0] λc=>.A0 c (.Ck p 6 λ_ _ d=>.ib [b,I 1] λe=>.op (.Ro 1 false false true) [d,e] λf=>.ca 200078 [f] λh=>.fa p 6 λ_ j=>.store 1 j h (.rr [.tuple []])) (.rr [.tuple []])
def Y6:GL cx 100091 jZ:=λ_=>AT
def Xi(p:Ab):IT:=
 .op (.Gs false .sl) [p,.slnil] λa=>.A0 a (.rr [.slnil]) (.op (.Hi 1) [] λb=>.Ks 1 8 b p λc=>.rr [c])
def SQ:GL cx 200078 Xi:=λ_=>AT
end Go.Am
