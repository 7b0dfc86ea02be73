/- Lemmas -/
import Derived.Test.YtljddgipdchkiaaGreatDoorZ9
import Derived.Test.YtljddgipdchkiaaGreatDoorZ17
set_option linter.all false
namespace Go.Am
open Go
def aBX(p q:Aa):IT:=
 .ln [p] λa=>.loop 2 [I 0,I 0] (λb=>.il [g b 1,a] λc=>.AE c (.ea 1 [p,g b 1] λd=>.ld d λe=>.ie [q,e] λf=>.AE f (.rr [g b 1,g b 1]) (.ia [g b 1,I 1] λh=>.rn [g b 0,h])) (.rx 0 [g b 0,g b 1])) (lx 0 (λj=>.rr [I (-1)]) λj=>.rr [g j 0])
def rI:DB cx 173 aBX:=λ_ _=>AH
def aBY(p q:Aa):IT:=
 .op (.conv .u32) [q] λa=>.ik [a,.int .u32 127] λb=>.AE b (.op (.conv .u8) [q] λc=>.op (.BI 1) [c] λd=>.FN 1 1 p d λe=>.rr [e]) (.ca 321 [p,q] λf=>.rr [f])
def rJ:DB cx 174 aBY:=λ_ _=>AH
def aBZ(p q r:Aa):IT:=
 .op (.BI 1) [q] λa=>.ca 236 [p,a] λb=>.iq [b,I 0] λc=>.AE c (.rr [b]) (.ca 153 [p,q] λd=>.fa d 0 λ_ e=>.fl e 0 λ_ f=>.iq [f,I 5] λh=>.AE h (.fa d 0 λ_ j=>.fl j 0 λ_ k=>.iq [k,I 6] λm=>.AE m (.rr [I 9]) (.fa d 0 λ_ n=>.op (.EN 7) [n] λo=>.store 1 o r (.rr [I 0]))) (.fa d 0 λ_ s=>.op (.EN 7) [s] λu=>.store 1 u r (.rr [I 0])))
def rK:LP cx 175 aBZ:=λ_ _ _=>AH
def aB0(p q r:Aa):IT:=
 .op (.BF [I 0,I 0,.slnil,I 0,I 0,S [],.slnil,S [],S [],S [],ff,I 0,I 0] [(0,1),(7,1)]) [I 5,r] λa=>.ca 235 [p,q,a] λb=>.op (.ext 0) [b] λc=>.op (.ext 1) [b] λd=>.rr [.tuple [c,d]]
def rL:LP cx 176 aB0:=λ_ _ _=>AH
def aB1(p q r:Aa):IT:=
 .op (.BF [I 0,I 0,.slnil,I 0,I 0,S [],.slnil,S [],S [],S [],ff,I 0,I 0] [(0,1),(7,1)]) [I 6,r] λa=>.ca 235 [p,q,a] λb=>.op (.ext 0) [b] λc=>.op (.ext 1) [b] λd=>.rr [.tuple [c,d]]
def rM:LP cx 177 aB1:=λ_ _ _=>AH
def aB2(p q r:Aa):IT:=
 .cells 1 r λa=>.ca 322 [p,q,.func (.func 323) [] [.Cq [g a 0]]] λb=>.rr [b]
def rN:LP cx 178 aB2:=λ_ _ _=>AH
def aB3(p q:Aa):IT:=
 .cells 1 q λa=>.ca 199 [p,.func (.func 324) [] [.Cq [g a 0]],.func (.func 200) [] []] λb=>.rr [b]
def rO:DB cx 179 aB3:=λ_ _=>AH
def aB4(p q:Aa):IT:=
 .cells 1 q λa=>.ca 326 [p,.func (.func 327) [] [.Cq [g a 0]]] λb=>.rr [b]
def rP:DB cx 180 aB4:=λ_ _=>AH
def lz(p:Aa):IT:=
 .op (.GC false .sl) [p,.slnil] λa=>.AE a (.rr [.slnil]) (.op (.BI 3) [] λb=>.HR 3 48 b p λc=>.rr [c])
def Vv:Ek cx 181 lz:=λ_=>AH
def aB5(p:Aa):IT:=
 .cells 3 p λa=>.op (.BF [I 0,S [],ff,S [],ff,S [],ff,ff,.slnil,ff,S [],.int .i32 0] [(0,1),(1,1),(8,1)]) [I 2,g a 1,g a 2] λb=>.cells 12 b λc=>.rr [EI c]
def rQ:Ek cx 182 aB5:=λ_=>AH
def aB6(p:Aa):IT:=
 .op (.Rq false) [p,.ptr none] λa=>.AE a (.rr [I 0]) (.Bt p 0 λ_ _ b=>.ln [b] λc=>.rr [c])
def rR:Ek cx 183 aB6:=λ_=>AH
def aB7(p q:Aa):IT:=
 .il [q,I 0] λa=>.AE a (.op (.BF [I 0,I 0,S [],ff] []) [] λb=>.cells 4 b λc=>.rr [a4 c]) (.ca 183 [p] λd=>.ih [q,d] λe=>.AE e (.op (.BF [I 0,I 0,S [],ff] []) [] λf=>.cells 4 f λh=>.rr [a4 h]) (.Bt p 0 λ_ _ j=>.ea 4 [j,q] λk=>.load (some 4) k λm=>.cells 4 m λn=>.rr [a4 n]))
def rS:DB cx 184 aB7:=λ_ _=>AH
def xw(p q:Aa):IT:=
 .cells 1 q λa=>.ca 180 [p,g a 0] λb=>.il [b,I 0] λc=>.AE c (.rr [I 0]) (.ca 199 [p,.func (.func 200) [] [],.func (.func 328) [] [.Cq [g a 0]]] λd=>.rr [d])
def bZ:DB cx 185 xw:=λ_ _=>AH
def aB8(p q:Aa):IT:=
 .ie [p,I 3] λa=>.AE a (.se [q,S aWg] λb=>.AE b (.rr [tt]) (.Bk 329 [p,q] λc=>.rr [c])) (.ie [p,I 2] λd=>.AE d (.se [q,S aXg] λe=>.AE e (.rr [tt]) (.se [q,S aWu] λf=>.AE f (.rr [tt]) (.se [q,S aWV] λh=>.rr [h]))) (.ie [p,I 1] λj=>.AE j (swv q (.rr [tt]) (.rr [ff]) Ny) (.rr [ff])))
def rT:DB cx 186 aB8:=λ_ _=>AH
def aB9(p:Aa):IT:=
 .ca 146 [p] λa=>.nt [a] λb=>.AE b (.op (.BF [I 0,I 0,S [],ff] []) [] λc=>.cells 4 c λd=>.rr [a4 d]) (.fa p 2 λ_ e=>.ca 197 [e] λf=>.cells 4 f λh=>.rr [a4 h])
def rU:Ek cx 187 aB9:=λ_=>AH
def aCa(p q:Aa):IT:=
 .op (.Rq false) [p,.ptr none] λa=>.AE a (.rr [I (-1)]) (.ie [q,I 0] λb=>.AE b (.rr [I (-1)]) (.Bt p 0 λ_ _ c=>.ln [c] λd=>.ib [d,I 1] λe=>.loop 4 [I 0,e] (λf=>.ih [g f 1,I 0] λh=>.AE h (.Bt p 0 λ_ _ j=>.ea 3 [j,g f 1] λk=>.fl k 0 λ_ m=>.ie [m,q] λn=>.AE n (.rr [g f 1,g f 1]) (.ib [g f 1,I 1] λo=>.rn [g f 0,o])) (.rx 0 [g f 0,g f 1])) (lx 0 (λs=>.rr [I (-1)]) λs=>.rr [g s 0])))
def rV:DB cx 188 aCa:=λ_ _=>AH
def iG(p q:Aa):IT:=
 .fa p 3 λ_ a=>.ca 330 [a,q] λb=>.il [b,I 0] λc=>.AE c (.ca 74 [p,q] λ_=>.rr [ff]) (.fa p 3 λ_ d=>.fl d 0 λ_ e=>.ea 3 [e,b] λf=>.load (some 3) f λh=>.op (.BF [I 0,S [],.slnil,I 0,I 0,I 0,I 0,S [],ff,I 0,I 0,S [],ff,I 0] [(0,3),(3,1),(4,1)]) [h,b,b] λj=>.alloc 14 j λk=>.fa k 0 λ_ m=>.fl m 0 λ_ n=>.fa p 2 λ_ o=>.ca 180 [o,n] λs=>.il [s,I 0] λu=>.AE u (.ca 331 [k,p,b] λ_=>.rr [ff]) (.ie [s,I 0] λw=>.AE w (.rr [ff]) (.fa p 2 λ_ y=>.ca 332 [y,I 1,n] λz=>.nt [z] λa0=>.AE a0 (.rr [ff]) (.fa p 2 λ_ a1=>.ca 333 [a1,n] λa2=>.il [a2,I 0] λa5=>.AE a5 (.fa p 2 λ_ a7=>.ca 185 [a7,n] λ_=>.ca 331 [k,p,b] λ_=>.rr [ff]) (.fa p 2 λ_ a8=>.ib [s,I 1] λb0=>.fa p 2 λ_ b1=>.ca 184 [a8,b0] λb2=>.ca 184 [b1,a2] λb3=>.fa k 5 λ_ b4=>.store 4 b4 b2 (.fa k 9 λ_ b5=>.store 4 b5 b3 (.fa k 9 λ_ b6=>.fl b6 0 λ_ b7=>.fa k 13 λ_ b8=>.store 1 b8 b7 (.ca 334 [p,k,s,a2] λ_=>.fa k 5 λ_ b9=>.fl b9 0 λ_ c0=>.ca 171 [p,c0] λc1=>.op (.ext 0) [c1] λc2=>.op (.ext 1) [c1] λc3=>.Bt k 13 λ_ _ c4=>.ca 159 [p,c4,c2,c3] λ_=>.fa k 0 λ_ c5=>.load (some 3) c5 λc6=>.fa k 9 λ_ c7=>.fl c7 0 λc8 c9=>.ca 182 [c6] λd0=>.ld c8 λd1=>.same c9 d1 (.ca 85 [p,d0,I 1,c9] λd2=>.cells 4 d2 λd3=>.Bt p 0 λ_ _ d4=>.fa k 9 λ_ d5=>.fl d5 0 λ_ d6=>.ca 306 [d4,d6] λd7=>.ln [d7] λd8=>.loop 25 [I 0] (λd9=>.il [g d9 0,d8] λe0=>.AE e0 (.ea 1 [d7,g d9 0] λe1=>.ld e1 λe2=>.ca 159 [p,e2,g d3 0,I 0] λ_=>.ia [g d9 0,I 1] λe3=>.rn [e3]) (.rx 0 [g d9 0])) (lx 0 (λe4=>.fa k 9 λ_ e5=>.fl e5 0 λ_ e6=>.ca 159 [p,g d3 0,e6,I 0] λ_=>.Bt k 3 λ_ _ e7=>.ca 331 [k,p,e7] λ_=>.fa p 3 λ_ e8=>.fa k 0 λ_ e9=>.fl e9 1 λ_ f0=>.fa k 0 λ_ f1=>.fl f1 2 λ_ f2=>.op (.BF [I 0,S [],.slnil] [(0,1),(1,1),(2,1)]) [g d3 0,f0,f2] λf3=>.Bt k 4 λ_ _ f4=>.ca 335 [e8,f3,f4] λ_=>.fa p 2 λ_ f5=>.ca 244 [f5,n] λ_=>.fa p 2 λ_ f6=>.fa p 2 λ_ f7=>.fa k 9 λ_ f8=>.fl f8 0 λ_ f9=>.ca 180 [f7,f9] λh0=>.ia [h0,I 1] λh1=>.ca 336 [f6,a4 d3,h1] λ_=>.rr [tt]) λe4=>.rr [ff]))))))))))
def Ol:DB cx 189 iG:=λ_ _=>AH
def aCb(p q r:Aa):IT:=
 .cells 4 q λa=>.ca 337 [] λb=>.ln [b] λc=>.loop 2 [I 0,ff,I 0] (λd=>.il [g d 2,c] λe=>.AE e (.ea 2 [b,g d 2] λf=>.load (some 2) f λh=>.cells 2 h λj=>.op (.BI 1) [g j 0] λk=>.ca 162 [a4 a,k] λm=>.AE m (.rr [g j 1,tt,g d 2]) (.ia [g d 2,I 1] λn=>.rn [g d 0,g d 1,n])) (.rx 0 [g d 0,g d 1,g d 2])) (lx 0 (λo=>.op (.BI 1) [S aW4] λs=>.ca 162 [a4 a,s] λu=>.AE u (.ca 338 [p,r] λw=>.rr [.tuple [w,tt]]) (.Dz 200009 (.op (.BI 1) [S [116,100],S [116,104]] λy=>.ca 162 [a4 a,y] λz=>.AE z (.ig [r,I 0] λa0=>.rn [a0]) (.rn [ff])) (λx a1=>match x with| .normal=>.AE (g a1 0) (.rr [.tuple [I 15,tt]]) (.op (.BI 1) [S aWb] λa2=>.ca 162 [a4 a,a2] λa5=>.AE a5 (.Bt p 6 λ_ _ a7=>.ln [a7] λa8=>.ig [a8,I 0] λb0=>.AE b0 (.Bt p 6 λ_ _ b1=>.ib [a8,I 1] λb2=>.ea 1 [b1,b2] λb3=>.ld b3 λb4=>.rr [.tuple [b4,tt]]) (.rr [.tuple [I 7,tt]])) (.Dz 200016 (.op (.BI 1) [S aWL] λb5=>.ca 162 [a4 a,b5] λb6=>.AE b6 (.ig [r,I 0] λb7=>.rn [b7]) (.rn [ff])) (λx b8=>match x with| .normal=>.AE (g b8 0) (.rr [.tuple [I 4,tt]]) (.op (.BI 1) [S aWh] λb9=>.ca 162 [a4 a,b9] λc1=>.AE c1 (.Bt p 7 λ_ _ c2=>.ie [c2,I 0] λc4=>.AE c4 (.rr [.tuple [I 3,tt]]) (.rr [.tuple [I 6,tt]])) (.ie [r,I 0] λc5=>.rr [.tuple [I 7,c5]]))| .exit i=>if i=2 then .ie [r,I 0] λc6=>.rr [.tuple [I 7,c6]] else .fail| .ret=>.rr [.tuple [g o 0,g o 1]])))| .exit i=>if i=2 then .ie [r,I 0] λc8=>.rr [.tuple [I 7,c8]] else .fail| .ret=>.rr [.tuple [g o 0,g o 1]]))) λo=>.rr [.tuple [g o 0,g o 1]])
def rW:LP cx 190 aCb:=λ_ _ _=>AH
def xy(p q:Aa):IT:=
 .ca 309 [p,q] λa=>.ih [a,I 0] λb=>.rr [b]
def cA:DB cx 191 xy:=λ_ _=>AH
def aCc(p q:Aa):IT:=
 .cells 3 p λa=>.ie [g a 0,I 0] λb=>.AE b (.fl q 1 λ_ c=>.se [g a 1,c] λd=>.rr [d]) (.rr [ff])
def rX:DB cx 192 aCc:=λ_ _=>AH
def aCd(p q r:Aa):IT:=
 .op (.BI 1) [q] λa=>.ca 236 [p,a] λb=>.iq [b,I 0] λc=>.AE c (.rr [b]) (.ca 153 [p,q] λd=>.fa d 0 λ_ e=>.fl e 0 λ_ f=>.iq [f,I 4] λh=>.AE h (.rr [I 9]) (.ca 339 [r] λj=>.op (.ext 0) [j] λk=>.op (.ext 1) [j] λm=>.nt [m] λn=>.AE n (.rr [I 2]) (.fa d 0 λ_ o=>.op (.EN 6) [o] λs=>.store 1 s k (.rr [I 0]))))
def rY:LP cx 193 aCd:=λ_ _ _=>AH
def aCe(p q:Aa):IT:=
 .cells 1 q λa=>.ca 326 [p,.func (.func 340) [] [.Cq [g a 0]]] λb=>.rr [b]
def rZ:DB cx 194 aCe:=λ_ _=>AH
def aCf(p:Aa):IT:=
 .ca 199 [p,.func (.func 341) [] [],.func (.func 200) [] []] λa=>.rr [a]
def sB:Ek cx 195 aCf:=λ_=>AH
def aCg(p q r:Aa):IT:=
 .cells 3 q λa=>.op (.HO 3 false false true) [p,r] λb=>.op (.append 3 48) [.slnil,b] λc=>.op (.BI 3) [a3 a] λd=>.op (.append 3 48) [c,d] λe=>.op (.HO 3 false true false) [p,r] λf=>.op (.append 3 48) [e,f] λh=>.rr [h]
def sC:LP cx 196 aCg:=λ_ _ _=>AH
def aCh(p:Aa):IT:=
 .ca 183 [p] λa=>.ib [a,I 1] λb=>.ca 184 [p,b] λc=>.cells 4 c λd=>.rr [a4 d]
def sD:Ek cx 197 aCh:=λ_=>AH
def aCi(p:Aa):IT:=
 .Bt p 0 λ_ _ a=>.ln [a] λb=>.loop 2 [b] (λc=>.ig [g c 0,I 0] λd=>.AE d (.Bt p 0 λ_ _ e=>.ib [g c 0,I 1] λf=>.ea 3 [e,f] λh=>.fl h 0 λ_ j=>.iq [j,I 0] λk=>.AE k (.ib [g c 0,I 1] λm=>.rn [m]) (.rx 0 [g c 0])) (.rx 0 [g c 0])) (lx 0 (λn=>.rr [g n 0]) λn=>.rr [I 0])
def sE:Ek cx 198 aCi:=λ_=>AH
def aCj(p q r:Aa):IT:=
 .loop 2 [I 0] (λa=>.ca 183 [p] λb=>.ig [b,I 1] λc=>.AE c (.ca 197 [p] λd=>.Es q [d] λe=>.nt [e] λf=>.AE f (.ia [g a 0,I 1] λh=>.ca 82 [p] λj=>.Es r [j] λk=>.AE k (.rx 0 [h]) (.rn [h])) (.rx 0 [g a 0])) (.rx 0 [g a 0])) (lx 0 (λm=>.rr [g m 0]) λm=>.rr [I 0])
def sF:LP cx 199 aCj:=λ_ _ _=>AH
def aCk(p:Aa):IT:=
 .cells 4 p λ_=>.rr [ff]
def sG:Ek cx 200 aCk:=λ_=>AH
def aCl(p q:Aa):IT:=
 .cells 4 p λa=>.ld q λb=>.ca 202 [a4 a,b] λc=>.rr [c]
def sH:DB cx 201 aCl:=λ_ _=>AH
def aCm(p q:Aa):IT:=
 .cells 4 p λa=>.ie [g a 1,I 1] λb=>.AE b (.ca 311 [q,g a 2] λc=>.rr [c]) (.rr [ff])
def sI:DB cx 202 aCm:=λ_ _=>AH
def aCn(p q:Aa):IT:=
 .Nf λa=>.op (.BF [I 0,S [],S []] [(0,1),(1,1)]) [I 4,S aXc] λb=>.HQ a (S aWx) b (.op (.BF [I 0,S [],S []] [(0,1),(1,1)]) [I 4,S aXb] λc=>.HQ a (S aWv) c (.op (.BF [I 0,S [],S []] [(0,1),(1,1)]) [I 4,S aXk] λd=>.HQ a (S aWG) d (.op (.BF [I 0,S [],S []] [(0,1),(1,1)]) [I 4,S aXl] λe=>.HQ a (S aWH) e (.op (.BF [I 0,S [],S []] [(0,1),(1,1)]) [I 4,S aXm] λf=>.HQ a (S aWI) f (.op (.BF [I 0,S [],S []] [(0,1),(1,1)]) [I 4,S aWV] λh=>.HQ a (S aWA) h (.op (.BF [I 0,S [],S []] [(0,1),(1,1)]) [I 4,S aXf] λj=>.HQ a (S aWJ) j (.op (.BF [I 0,S [],S []] [(0,1),(1,1)]) [I 5,S [108,97,110,103]] λk=>.HQ a (S aWO) k (.op (.BF [I 0,S [],S []] [(0,1),(1,1)]) [I 5,S aXj] λm=>.HQ a (S aWC) m (.op (.BF [I 0,S [],S []] [(0,1),(1,1)]) [I 6,S aWD] λn=>.HQ a (S aWD) n (.op (.BF [I 0,S [],S []] [(0,1),(1,1)]) [I 6,S aW8] λo=>.HQ a (S aWr) o (.ln [q] λs=>.loop 4 [.slnil,I 0] (λu=>.il [g u 1,s] λw=>.AE w (.ea 3 [q,g u 1] λy=>.load (some 3) y λz=>.cells 3 z λa0=>.op (.BF [I 0,S [],S []] [(1,1),(2,1)]) [g a0 1,g a0 2] λa1=>.cells 3 a1 λa2=>.ie [p,I 2] λa5=>.Dz 100036 (.AE a5 (.Bk 343 [g a0 1] λa7=>.cells 1 a7 λa8=>.rn [.agg [g a2 0,g a8 0,g a2 2]]) (.Dz 200009 (.ie [p,I 3] λb0=>.AE b0 (.se [g a0 1,S aWM] λb1=>.rn [b1]) (.rn [ff])) (λx b2=>match x with| .normal=>.Dz 100043 (.AE (g b2 0) (.cells 1 (S aWT) λb3=>.rn [.agg [g a2 0,g b3 0,g a2 2]]) (.rn [a3 a2])) (λx b4=>.cells 3 (g b4 0) λb5=>.ret x [a3 b5])| .exit i=>.ret (.exit i) [a3 a2]| .ret=>.rr [a3 a2]))) (λx b6=>.cells 3 (g b6 0) λb7=>match x with| .normal=>.L4 (.agg [I 0,S [],S []]) true a (g b7 1) λb8=>.op (.ext 0) [b8] λb9=>.op (.ext 1) [b8] λc0=>.cells 3 b9 λc1=>.Dz 200012 (.AE c0 (.ie [p,I 2] λc2=>.AE c2 (.rn [tt]) (.ie [p,I 3] λc3=>.rn [c3])) (.rn [ff])) (λx c4=>match x with| .normal=>.Dz 100067 (.AE (g c4 0) (.cells 1 (g c1 0) λc5=>.cells 1 (g c1 1) λc6=>.rn [.agg [g c5 0,g c6 0,g b7 2]]) (.rn [a3 b7])) (λx c7=>.cells 3 (g c7 0) λc8=>match x with| .normal=>.op (.BI 3) [a3 c8] λc9=>.op (.append 3 40) [g u 0,c9] λd0=>.ia [g u 1,I 1] λd1=>.rn [d0,d1]| .exit i=>if i=1 then .ia [g u 1,I 1] λd2=>.rn [g u 0,d2] else .ret (.exit i) [g u 0,g u 1]| .ret=>.rr [g u 0,g u 1])| .exit i=>if i=1 then .ia [g u 1,I 1] λd3=>.rn [g u 0,d3] else .ret (.exit i) [g u 0,g u 1]| .ret=>.rr [g u 0,g u 1])| .exit i=>if i=2 then .L4 (.agg [I 0,S [],S []]) true a (g b7 1) λd4=>.op (.ext 0) [d4] λd5=>.op (.ext 1) [d4] λd6=>.cells 3 d5 λd7=>.Dz 200012 (.AE d6 (.ie [p,I 2] λd8=>.AE d8 (.rn [tt]) (.ie [p,I 3] λd9=>.rn [d9])) (.rn [ff])) (λx e0=>match x with| .normal=>.Dz 100067 (.AE (g e0 0) (.cells 1 (g d7 0) λe1=>.cells 1 (g d7 1) λe2=>.rn [.agg [g e1 0,g e2 0,g b7 2]]) (.rn [a3 b7])) (λx e3=>.cells 3 (g e3 0) λe4=>match x with| .normal=>.op (.BI 3) [a3 e4] λe5=>.op (.append 3 40) [g u 0,e5] λe6=>.ia [g u 1,I 1] λe7=>.rn [e6,e7]| .exit i=>if i=1 then .ia [g u 1,I 1] λe8=>.rn [g u 0,e8] else .ret (.exit i) [g u 0,g u 1]| .ret=>.rr [g u 0,g u 1])| .exit i=>if i=1 then .ia [g u 1,I 1] λe9=>.rn [g u 0,e9] else .ret (.exit i) [g u 0,g u 1]| .ret=>.rr [g u 0,g u 1]) else if i=1 then .ia [g u 1,I 1] λf0=>.rn [g u 0,f0] else .ret (.exit i) [g u 0,g u 1]| .ret=>.rr [g u 0,g u 1])) (.rx 0 [g u 0,g u 1])) (lx 0 (λf1=>.rr [g f1 0]) λf1=>.rr [.slnil]))))))))))))
def sJ:DB cx 203 aCn:=λ_ _=>AH
def aCo(p:Aa):IT:=
 .Bk 344 [p,S aV9] λa=>.rr [a]
def sK:Ek cx 204 aCo:=λ_=>AH
def xz(p q r u w:Aa):IT:=
 .ca 234 [p,q] λa=>.iq [a,I 0] λb=>.AE b (.rr [.tuple [I 0,a]]) (.ca 339 [w] λc=>.op (.ext 0) [c] λd=>.op (.ext 1) [c] λe=>.nt [e] λf=>.AE f (.rr [.tuple [I 0,I 2]]) (.op (.BI 1) [r] λh=>.ca 345 [h] λj=>.nt [j] λk=>.AE k (.rr [.tuple [I 0,I 2]]) (.op (.BF [I 0,I 0,.slnil,I 0,I 0,S [],.slnil,S [],S [],S [],ff,I 0,I 0] [(0,1),(3,1),(4,1),(5,1),(6,1)]) [I 4,q,r,u,d] λm=>.ca 158 [p,m] λn=>.ca 153 [p,n] λo=>.ca 346 [o] λs=>.AE s (.ca 347 [p,q] λy=>.op (.BF [I 0,I 0,.slnil,I 0,I 0,S [],.slnil,S [],S [],S [],ff,I 0,I 0] [(0,1),(12,1),(3,1)]) [I 2,n,y] λz=>.ca 158 [p,z] λa0=>.ca 153 [p,n] λa1=>.fa a1 0 λ_ a2=>.op (.EN 11) [a2] λa5=>.store 1 a5 a0 (.rr [.tuple [n,I 0]])) (.rr [.tuple [n,I 0]]))))
def cB:Tq5 cx 205 xz:=λ_ _ _ _ _=>AH
def x_(p q:Aa):IT:=
 .ca 172 [p,q] λa=>.cells 13 a λb=>.iq [g b 11,I 0] λc=>.AE c (.ca 172 [p,g b 11] λd=>.cells 13 d λe=>.iq [g e 3,I 0] λf=>.AE f (.rr [g e 3]) (.Bt p 1 λ_ _ h=>.rr [h])) (.iq [g b 3,I 0] λj=>.AE j (.rr [g b 3]) (.Bt p 1 λ_ _ k=>.rr [k]))
def cC:DB cx 206 x_:=λ_ _=>AH
def aGY(p:Aa):IT:=
 .ih [p,I 0] λa=>.AE a (.ik [p,I 7] λb=>.rr [b]) (.rr [ff])
def ya:Ek cx 207 aGY:=λ_=>AH
def aGZ(p q:Aa):IT:=
 .ie [q,I 0] λa=>.Dz 100009 (.AE a (.Bt p 2 λ_ _ b=>.ln [b] λc=>.ie [c,I 0] λd=>.AE d (.Bt p 1 λ_ _ e=>.rr [q,e,I 0]) (.ca 221 [p] λf=>.op (.part 0 none) [f] λh=>.rn [h,I 0,I 0])) (.rn [q,I 0,I 0])) (nx (λj=>.Dz 200006 (.Bt p 15 λ_ _ k=>.AE k (.ca 232 [p,g j 0,S aWi] λm=>.rn [m]) (.rn [ff])) (nx (λn=>.Dz 100032 (.AE (g n 0) (.ca 348 [p] λo=>.op (.ext 0) [o] λs=>.op (.ext 1) [o] λu=>.rn [s,u]) (.rn [g j 0,I 0])) (nx (λw=>.ca 232 [p,g w 0,S aWb] λy=>.AE y (.Bt p 0 λ_ _ z=>.Bt z 0 λ_ _ a0=>.ea 13 [a0,g w 0] λa1=>.fl a1 11 λ_ a2=>.rr [.tuple [a2,I 0]]) (.rr [.tuple [g w 0,g w 1]])) λw=>.rr [.tuple [g j 1,g j 2]])) λn=>.rr [.tuple [g j 1,g j 2]])) λj=>.rr [.tuple [g j 1,g j 2]])
def yb:DB cx 208 aGZ:=λ_ _=>AH
def aG0(p q:Aa):IT:=
 .Bt p 0 λ_ _ a=>.ca 281 [a,q] λb=>.nt [b] λc=>.AE c (.rr [I 0]) (.Bt p 0 λ_ _ d=>.Bt d 0 λ_ _ e=>.ea 13 [e,q] λf=>.fl f 0 λ_ h=>.rr [h])
def yc:DB cx 209 aG0:=λ_ _=>AH
def aG1(p:Aa):IT:=
 .ih [p,.int .i32 0] λa=>.AE a (.ik [p,.int .i32 55295] λb=>.AE b (.rr [tt]) (.ih [p,.int .i32 57344] λc=>.AE c (.ik [p,.int .i32 1114111] λd=>.rr [d]) (.rr [ff]))) (.ih [p,.int .i32 57344] λe=>.AE e (.ik [p,.int .i32 1114111] λf=>.rr [f]) (.rr [ff]))
def yd:Ek cx 210 aG1:=λ_=>AH
def aG2(p:Aa):IT:=
 .op (.conv .i64) [p] λa=>.il [a,I 128] λb=>.AE b (.op (.conv .u8) [a] λc=>.op (.BI 1) [c] λd=>.rr [d]) (.il [a,I 2048] λe=>.AE e (.op (.int .quo) [a,I 64] λf=>.ia [I 192,f] λh=>.op (.conv .u8) [h] λj=>.op (.int .rem) [a,I 64] λk=>.ia [I 128,k] λm=>.op (.conv .u8) [m] λn=>.op (.BI 1) [j,n] λo=>.rr [o]) (.il [a,I 65536] λs=>.AE s (.op (.int .quo) [a,I 4096] λu=>.ia [I 224,u] λw=>.op (.conv .u8) [w] λy=>.op (.int .quo) [a,I 64] λz=>.op (.int .rem) [z,I 64] λa0=>.ia [I 128,a0] λa1=>.op (.conv .u8) [a1] λa2=>.op (.int .rem) [a,I 64] λa5=>.ia [I 128,a5] λa7=>.op (.conv .u8) [a7] λa8=>.op (.BI 1) [y,a2,a8] λb0=>.rr [b0]) (.op (.int .quo) [a,I 262144] λb1=>.ia [I 240,b1] λb2=>.op (.conv .u8) [b2] λb3=>.op (.int .quo) [a,I 4096] λb4=>.op (.int .rem) [b4,I 64] λb5=>.ia [I 128,b5] λb6=>.op (.conv .u8) [b6] λb7=>.op (.int .quo) [a,I 64] λb8=>.op (.int .rem) [b8,I 64] λb9=>.ia [I 128,b9] λc0=>.op (.conv .u8) [c0] λc1=>.op (.int .rem) [a,I 64] λc2=>.ia [I 128,c2] λc3=>.op (.conv .u8) [c3] λc4=>.op (.BI 1) [b3,b7,c1,c4] λc5=>.rr [c5])))
def ye:Ek cx 211 aG2:=λ_=>AH
def aCp(p q:Aa):IT:=
 .ca 281 [p,q] λa=>.nt [a] λb=>.AE b (.rr [.slnil]) (.Bt p 0 λ_ _ c=>.ea 13 [c,q] λd=>.fl d 2 λ_ e=>.op (.append 1 8) [.slnil,e] λf=>.rr [f])
def sL:DB cx 212 aCp:=λ_ _=>AH
def aG3(p q:Aa):IT:=
 .loop 2 [I 0,I 0] (λa=>.ln [p] λb=>.il [g a 1,b] λc=>.AE c (.ea 1 [p,g a 1] λd=>.ld d λe=>.ie [e,q] λf=>.AE f (.rr [g a 1,g a 1]) (.ia [g a 1,I 1] λh=>.rn [g a 0,h])) (.rx 0 [g a 0,g a 1])) (lx 0 (λj=>.rr [I (-1)]) λj=>.rr [g j 0])
def yf:DB cx 213 aG3:=λ_ _=>AH
def aG4(p q:Aa):IT:=
 .Bt p 0 λ_ _ a=>.ca 281 [a,q] λb=>.AE b (.Bt p 0 λ_ _ c=>.Bt c 0 λ_ _ d=>.ea 13 [d,q] λe=>.fl e 3 λ_ f=>.rr [f]) (.Bt p 1 λ_ _ h=>.rr [h])
def yg:DB cx 214 aG4:=λ_ _=>AH
def aG5(p q r:Aa):IT:=
 .loop 2 [ff,I 0] (λa=>.ln [p] λb=>.il [g a 1,b] λc=>.AE c (.ea 4 [p,g a 1] λd=>.load (some 4) d λe=>.ca 218 [e,r] λf=>.AE f (.ca 349 [p,g a 1,q] λh=>.AE h (.rr [tt,g a 1]) (.ia [g a 1,I 1] λj=>.rn [g a 0,j])) (.ia [g a 1,I 1] λk=>.rn [g a 0,k])) (.rx 0 [g a 0,g a 1])) (lx 0 (λm=>.rr [ff]) λm=>.rr [g m 0])
def yh:LP cx 215 aG5:=λ_ _ _=>AH
def aG6(p q r:Aa):IT:=
 .ln [p] λa=>.loop 2 [a] (λb=>.ig [g b 0,I 1] λc=>.AE c (.ib [g b 0,I 1] λd=>.ea 4 [p,d] λe=>.load (some 4) e λf=>.cells 4 f λh=>.iq [g h 1,I 1] λj=>.AE j (.rx 0 [g b 0]) (.nt [r] λk=>.AE k (.Bk 350 [g h 2] λm=>.nt [m] λn=>.AE n (.rx 0 [g b 0]) (.se [g h 2,q] λo=>.AE o (.rx 0 [g b 0]) (.AE r (.Bk 351 [g h 2] λs=>.nt [s] λu=>.AE u (.rx 0 [g b 0]) (.ib [g b 0,I 1] λw=>.rn [w])) (.ib [g b 0,I 1] λy=>.rn [y])))) (.AE r (.Bk 351 [g h 2] λz=>.nt [z] λa0=>.AE a0 (.rx 0 [g b 0]) (.ib [g b 0,I 1] λa1=>.rn [a1])) (.ib [g b 0,I 1] λa2=>.rn [a2])))) (.rx 0 [g b 0])) (lx 0 (λa5=>.ca 229 [p,g a5 0] λa7=>.LK a7 λa8=>.rr [a8]) λa5=>.LK .slnil λb0=>.rr [b0])
def yi:LP cx 216 aG6:=λ_ _ _=>AH
def aG7(p q:Aa):IT:=
 .cells 3 q λa=>.ie [g a 0,I 0] λb=>.AE b (.rr [tt]) (.Bt p 2 λ_ _ c=>.ca 284 [c,g a 0] λd=>.ih [d,I 0] λe=>.rr [e])
def yj:DB cx 217 aG7:=λ_ _=>AH
def aG8(p q:Aa):IT:=
 .cells 4 p λa=>.iq [g a 1,I 1] λb=>.AE b (.rr [ff]) (.loop 4 [ff,I 0] (λc=>.ln [q] λd=>.il [g c 1,d] λe=>.AE e (.ea 1 [q,g c 1] λf=>.ld f λh=>.se [h,g a 2] λj=>.AE j (.rr [tt,g c 1]) (.ia [g c 1,I 1] λk=>.rn [g c 0,k])) (.rx 0 [g c 0,g c 1])) (lx 0 (λm=>.rr [ff]) λm=>.rr [g m 0]))
def yk:DB cx 218 aG8:=λ_ _=>AH
def aCq(p q:Aa):IT:=
 .ca 284 [p,q] λa=>.il [a,I 0] λb=>.AE b (.ln [p] λc=>.ca 229 [p,c] λd=>.LK d λe=>.rr [e]) (.ca 229 [p,a] λf=>.LK f λh=>.rr [h])
def sM:DB cx 219 aCq:=λ_ _=>AH
def aG9(p q:Aa):IT:=
 .ie [p,I 1] λa=>.AE a (.Bk 139 [S aV8,q] λb=>.rr [b]) (.ie [p,I 3] λc=>.AE c (.Bk 139 [S aWy,q] λd=>.AE d (.rr [tt]) (.se [q,S aWg] λe=>.rr [e])) (.ie [p,I 2] λf=>.AE f (.Bk 139 [S aWj,q] λh=>.rr [h]) (.rr [ff])))
def yl:DB cx 220 aG9:=λ_ _=>AH
def aHa(p:Aa):IT:=
 .Bt p 2 λ_ _ a=>.ca 352 [a] λb=>.cells 4 b λc=>.rr [a4 c]
def ym:Ek cx 221 aHa:=λ_=>AH
def aHb(p q:Aa):IT:=
 .loop 3 [I (-1),I 0] (λa=>.ln [p] λb=>.il [g a 1,b] λc=>.AE c (.iq [q,I 0] λd=>.AE d (.ea 3 [p,g a 1] λe=>.fl e 0 λ_ f=>.ie [f,q] λh=>.AE h (.ia [g a 1,I 1] λj=>.rn [g a 1,j]) (.ia [g a 1,I 1] λk=>.rn [g a 0,k])) (.ia [g a 1,I 1] λm=>.rn [g a 0,m])) (.rx 0 [g a 0,g a 1])) (lx 0 (λn=>.rr [g n 0]) λn=>.rr [I 0])
def yn:DB cx 222 aHb:=λ_ _=>AH
def aHc(p:Aa):IT:=
 .ln [p] λa=>.ib [a,I 1] λb=>.ca 229 [p,b] λc=>.LK c λd=>.rr [d]
def yo:Ek cx 223 aHc:=λ_=>AH
def nH(p q:Aa):IT:=
 .Bt p 3 λ_ _ a=>.ca 353 [a,q] λb=>.il [b,I 0] λc=>.AE c (.ca 94 [p,q] λ_=>.rr [ff]) (.Bt p 3 λ_ _ d=>.ea 3 [d,b] λe=>.load (some 3) e λf=>.cells 3 f λh=>.Bt p 2 λ_ _ j=>.ca 284 [j,g h 0] λk=>.il [k,I 0] λm=>.AE m (.ca 354 [p,g h 0] λ_=>.rr [ff]) (.Dz 200010 (.Bt p 2 λ_ _ n=>.ca 293 [n,I 1,g h 0] λo=>.nt [o] λs=>.AE s (.rn [tt]) (.ie [k,I 0] λu=>.rn [u])) (nx (λw=>.AE (g w 0) (.rr [ff]) (.Bt p 2 λ_ _ y=>.ca 355 [y,g h 0] λz=>.il [z,I 0] λa0=>.AE a0 (.Bt p 2 λ_ _ a1=>.ca 219 [a1,g h 0] λa2=>.fa p 2 λ_ a5=>.store 1 a5 a2 (.ca 354 [p,g h 0] λ_=>.rr [ff])) (.Bt p 2 λ_ _ a7=>.ea 4 [a7,z] λa8=>.fl a8 0 λ_ b0=>.Bt p 2 λ_ _ b1=>.ib [k,I 1] λb2=>.ea 4 [b1,b2] λb3=>.fl b3 0 λ_ b4=>.ca 356 [p,b,k,z,b4] λb5=>.op (.ext 0) [b5] λb6=>.op (.ext 1) [b5] λb7=>.ca 208 [p,b4] λb8=>.op (.ext 0) [b8] λb9=>.op (.ext 1) [b8] λc0=>.ca 166 [p,b9,b6,c0] λ_=>.op (.BF [I 0,S [],ff,S [],ff,S [],ff,ff,.slnil,ff,S [],.int .i32 0] [(0,1),(1,1),(8,1)]) [I 2,g h 1,g h 2] λc1=>.ca 104 [p,c1,I 1,b0] λc2=>.cells 4 c2 λc3=>.Bt p 0 λ_ _ c4=>.ca 212 [c4,b0] λc5=>.loop 24 [I 0] (λc6=>.ln [c5] λc7=>.il [g c6 0,c7] λc8=>.AE c8 (.Bt p 0 λ_ _ c9=>.ea 1 [c5,g c6 0] λd0=>.ld d0 λd1=>.ca 129 [c9,g c3 0,d1,I 0] λ_=>.ia [g c6 0,I 1] λd2=>.rn [d2]) (.rx 0 [g c6 0])) (lx 0 (λd3=>.Bt p 0 λ_ _ d4=>.ca 129 [d4,b0,g c3 0,I 0] λ_=>.Bt p 3 λ_ _ d5=>.ca 222 [d5,g h 0] λd6=>.il [d6,b7] λd7=>.Dz 100168 (.AE d7 (.ib [b7,I 1] λd8=>.rn [d8]) (.rn [b7])) (nx (λd9=>.ca 354 [p,g h 0] λ_=>.Bt p 3 λ_ _ e0=>.op (.BF [I 0,S [],.slnil] [(0,1),(1,1),(2,1)]) [g c3 0,g h 1,g h 2] λe1=>.ca 100 [e0,e1,g d9 0] λe2=>.fa p 3 λ_ e3=>.store 1 e3 e2 (.Bt p 2 λ_ _ e4=>.ca 138 [e4,g h 0] λe5=>.op (.ext 0) [e5] λe6=>.op (.ext 1) [e5] λ_=>.fa p 2 λ_ e7=>.store 1 e7 e6 (.Bt p 2 λ_ e8 e9=>.Bt p 2 λ_ _ f0=>.ca 284 [f0,b0] λf1=>.ld e8 λf2=>.same e9 f2 (.ia [f1,I 1] λf3=>.ca 357 [e9,a4 c3,f3] λf4=>.fa p 2 λ_ f5=>.store 1 f5 f4 (.rr [tt]))))) λd9=>.rr [ff])) λd3=>.rr [ff])))) λw=>.rr [ff])))
def Qa:DB cx 224 nH:=λ_ _=>AH
def aCr(p q r u:Aa):IT:=
 .cells 4 q λa=>.ie [g a 1,I 1] λb=>.AE b (.se [g a 2,S aW4] λc=>.AE c (.ca 358 [p,r] λd=>.rr [.tuple [d,tt]]) (.se [g a 2,S [116,100]] λe=>.AE e (.nt [u] λf=>.AE f (.rr [.tuple [I 15,tt]]) (.rr [.tuple [I 7,u]])) (.se [g a 2,S [116,104]] λh=>.AE h (.nt [u] λj=>.AE j (.rr [.tuple [I 15,tt]]) (.rr [.tuple [I 7,u]])) (.se [g a 2,S [116,114]] λk=>.AE k (.rr [.tuple [I 14,tt]]) (.se [g a 2,S aWX] λm=>.AE m (.rr [.tuple [I 13,tt]]) (.se [g a 2,S aWY] λn=>.AE n (.rr [.tuple [I 13,tt]]) (.se [g a 2,S aWU] λo=>.AE o (.rr [.tuple [I 13,tt]]) (.se [g a 2,S aWs] λs=>.AE s (.rr [.tuple [I 11,tt]]) (.se [g a 2,S aWF] λw=>.AE w (.rr [.tuple [I 12,tt]]) (.se [g a 2,S aWl] λy=>.AE y (.rr [.tuple [I 9,tt]]) (.se [g a 2,S aWb] λz=>.AE z (.Bt p 6 λ_ _ a0=>.ln [a0] λa1=>.ig [a1,I 0] λa2=>.AE a2 (.Bt p 6 λ_ _ a5=>.Bt p 6 λ_ _ a7=>.ln [a7] λa8=>.ib [a8,I 1] λb0=>.ea 1 [a5,b0] λb1=>.ld b1 λb2=>.rr [.tuple [b2,tt]]) (.rr [.tuple [I 7,tt]])) (.se [g a 2,S aWL] λb3=>.AE b3 (.nt [u] λb4=>.AE b4 (.rr [.tuple [I 4,tt]]) (.rr [.tuple [I 7,u]])) (.se [g a 2,S aWZ] λb5=>.AE b5 (.rr [.tuple [I 7,tt]]) (.se [g a 2,S aWK] λb6=>.AE b6 (.rr [.tuple [I 20,tt]]) (.se [g a 2,S aWh] λb7=>.AE b7 (.Bt p 7 λ_ _ b8=>.ie [b8,I 0] λb9=>.AE b9 (.rr [.tuple [I 3,tt]]) (.rr [.tuple [I 6,tt]])) (.rr [.tuple [I 7,u]])))))))))))))))) (.rr [.tuple [I 7,u]])
def sN:qm cx 225 aCr:=λ_ _ _ _=>AH
def aHd(p q r:Aa):IT:=
 .ca 281 [p,q] λa=>.nt [a] λb=>.AE b (.rr [I 3]) (.Bt p 0 λ_ _ c=>.ea 13 [c,q] λd=>.fl d 0 λ_ e=>.iq [e,I 4] λf=>.AE f (.rr [I 9]) (.ca 312 [r] λh=>.nt [h] λj=>.AE j (.rr [I 2]) (.Bt p 0 λ_ k m=>.ca 313 [r] λn=>.ld k λo=>.same m o (.ea 13 [m,q] λs=>.op (.EN 6) [s] λu=>.store 1 u n (.rr [I 0])))))
def yp:LP cx 226 aHd:=λ_ _ _=>AH
def aHe(p:Aa):IT:=
 .cells 3 p λa=>.op (.append 3 40) [.slnil,g a 2] λb=>.cells 1 b λc=>.cells 3 (.agg [g a 0,g a 1,g c 0]) λd=>.rr [a3 d]
def yq:Ek cx 227 aHe:=λ_=>AH
def aHf(p:Aa):IT:=
 .loop 3 [I 0,I 0] (λa=>.ln [p] λb=>.il [g a 1,b] λc=>.AE c (.ea 3 [p,g a 1] λd=>.fl d 0 λ_ e=>.ie [e,I 0] λf=>.AE f (.ia [g a 1,I 1] λh=>.ia [g a 1,I 1] λj=>.rn [h,j]) (.ia [g a 1,I 1] λk=>.rn [g a 0,k])) (.rx 0 [g a 0,g a 1])) (lx 0 (λm=>.rr [g m 0]) λm=>.rr [I 0])
def yr:Ek cx 228 aHf:=λ_=>AH
def aHg(p q:Aa):IT:=
 .il [q,I 1] λa=>.AE a (.ln [p] λb=>.ig [I 1,b] λc=>.AE c (.ln [p] λd=>.op (.HO 4 false false true) [p,d] λe=>.HR 4 40 .slnil e λf=>.rr [f]) (.op (.HO 4 false false true) [p,I 1] λh=>.HR 4 40 .slnil h λj=>.rr [j])) (.ln [p] λk=>.ig [q,k] λm=>.AE m (.ln [p] λn=>.op (.HO 4 false false true) [p,n] λo=>.HR 4 40 .slnil o λs=>.rr [s]) (.op (.HO 4 false false true) [p,q] λu=>.HR 4 40 .slnil u λw=>.rr [w]))
def yt:DB cx 229 aHg:=λ_ _=>AH
def aHh(p q:Aa):IT:=
 .loop 3 [.slnil,I 0] (λa=>.ln [q] λb=>.il [g a 1,b] λc=>.AE c (.ea 3 [q,g a 1] λd=>.fl d 1 λ_ e=>.ea 3 [q,g a 1] λf=>.fl f 2 λ_ h=>.op (.BF [I 0,S [],S []] [(1,1),(2,1)]) [e,h] λj=>.cells 3 j λk=>.Dz 200006 (.ie [p,I 3] λm=>.AE m (.se [g k 1,S aWM] λn=>.rn [n]) (.rn [ff])) (λx o=>match x with| .normal=>.Dz 100031 (.AE (g o 0) (.cells 1 (S aWT) λs=>.rn [.agg [g k 0,g s 0,g k 2]]) (.rn [a3 k])) (λx u=>.cells 3 (g u 0) λw=>match x with| .normal=>.ie [p,I 2] λy=>.Dz 100034 (.AE y (.Bk 359 [S aV7,g w 1] λz=>.cells 1 z λa0=>.rn [.agg [g w 0,g a0 0,g w 2]]) (.rn [a3 w])) (λx a1=>.cells 3 (g a1 0) λa2=>match x with| .normal=>.Dz 200010 (.ie [p,I 3] λa5=>.AE a5 (.rn [tt]) (.ie [p,I 2] λa7=>.rn [a7])) (λx a8=>match x with| .normal=>.Dz 100044 (.AE (g a8 0) (.Bk 139 [S aWc,g a2 1] λb0=>.Dz 100045 (.AE b0 (.op (.HO 0 true true false) [g a2 1,I 6] λb1=>.cells 1 (I 4) λb2=>.cells 1 b1 λb3=>.rn [.agg [g b2 0,g b3 0,g a2 2]]) (.Dz 200013 (.se [g a2 1,S aWO] λb4=>.AE b4 (.rn [tt]) (.se [g a2 1,S aWC] λb5=>.rn [b5])) (λx b6=>match x with| .normal=>.Dz 100054 (.AE (g b6 0) (.op (.HO 0 true true false) [g a2 1,I 4] λb7=>.cells 1 (I 5) λb8=>.cells 1 b7 λb9=>.rn [.agg [g b8 0,g b9 0,g a2 2]]) (.se [g a2 1,S aWD] λc1=>.Dz 100068 (.AE c1 (.cells 1 (I 6) λc2=>.rn [.agg [g c2 0,g a2 1,g a2 2]]) (.se [g a2 1,S aWr] λc3=>.Dz 100073 (.AE c3 (.cells 1 (I 6) λc4=>.cells 1 (S aW8) λc5=>.rn [.agg [g c4 0,g c5 0,g a2 2]]) (.rn [a3 a2])) (λx c6=>.cells 3 (g c6 0) λc7=>.ret x [a3 c7]))) (λx c8=>.cells 3 (g c8 0) λc9=>.ret x [a3 c9]))) (λx d0=>.cells 3 (g d0 0) λd1=>.ret x [a3 d1])| .exit i=>.ret (.exit i) [a3 a2]| .ret=>.rr [a3 a2]))) (λx d2=>.cells 3 (g d2 0) λd3=>match x with| .normal=>.rn [a3 d3]| .exit i=>if i=2 then .rn [a3 d3] else .ret (.exit i) [a3 d3]| .ret=>.rr [a3 d3])) (.rn [a3 a2])) (λx d4=>.cells 3 (g d4 0) λd5=>match x with| .normal=>.op (.BI 3) [a3 d5] λd6=>.op (.append 3 40) [g a 0,d6] λd7=>.ia [g a 1,I 1] λd8=>.rn [d7,d8]| .exit i=>if i=1 then .ia [g a 1,I 1] λd9=>.rn [g a 0,d9] else .ret (.exit i) [g a 0,g a 1]| .ret=>.rr [g a 0,g a 1])| .exit i=>if i=1 then .ia [g a 1,I 1] λe0=>.rn [g a 0,e0] else .ret (.exit i) [g a 0,g a 1]| .ret=>.rr [g a 0,g a 1])| .exit i=>if i=1 then .ia [g a 1,I 1] λe1=>.rn [g a 0,e1] else .ret (.exit i) [g a 0,g a 1]| .ret=>.rr [g a 0,g a 1])| .exit i=>if i=1 then .ia [g a 1,I 1] λe2=>.rn [g a 0,e2] else .ret (.exit i) [g a 0,g a 1]| .ret=>.rr [g a 0,g a 1])| .exit i=>if i=1 then .ia [g a 1,I 1] λe3=>.rn [g a 0,e3] else .ret (.exit i) [g a 0,g a 1]| .ret=>.rr [g a 0,g a 1])) (.rx 0 [g a 0,g a 1])) (lx 0 (λe4=>.rr [g e4 0]) λe4=>.rr [.slnil])
def yu:DB cx 230 aHh:=λ_ _=>AH
def aHi(p:Aa):IT:=
 .Bk 359 [S aV9,p] λa=>.rr [a]
def yv:Ek cx 231 aHi:=λ_=>AH
def aHj(p q r:Aa):IT:=
 .ca 209 [p,q] λa=>.ie [a,I 4] λb=>.AE b (.Bt p 0 λ_ _ c=>.Bt c 0 λ_ _ d=>.ea 13 [d,q] λe=>.fl e 4 λ_ f=>.ie [f,I 1] λh=>.AE h (.Bt p 0 λ_ _ j=>.Bt j 0 λ_ _ k=>.ea 13 [k,q] λm=>.fl m 5 λ_ n=>.Bk 139 [r,n] λo=>.rr [o]) (.rr [ff])) (.rr [ff])
def yw:LP cx 232 aHj:=λ_ _ _=>AH
def aCs(p:Aa):IT:=
 .ca 361 [.int .i32 9,.int .i32 10] λa=>.ca 361 [.int .i32 12,.int .i32 13] λb=>.ca 361 [.int .i32 32,.int .i32 32] λc=>.op (.BI 1) [a,b,c] λd=>.ca 360 [d] λe=>.Es e [p] λf=>.rr [f]
def sP:Ek cx 233 aCs:=λ_=>AH
def aCt(p q:Aa):IT:=
 .op (.BI 1) [q] λa=>.ca 236 [p,a] λb=>.iq [b,I 0] λc=>.AE c (.rr [b]) (.ca 153 [p,q] λd=>.fa d 0 λ_ e=>.fl e 0 λ_ f=>.iq [f,I 1] λh=>.AE h (.rr [I 9]) (.rr [I 0]))
def sQ:DB cx 234 aCt:=λ_ _=>AH
def aCu(p q r:Aa):IT:=
 .cells 13 r λa=>.ca 234 [p,q] λb=>.iq [b,I 0] λc=>.AE c (.rr [.tuple [I 0,b]]) (.cells 1 q λd=>.ca 158 [p,.agg [g a 0,g a 1,g a 2,g d 0,g a 4,g a 5,g a 6,g a 7,g a 8,g a 9,g a 10,g a 11,g a 12]] λe=>.rr [.tuple [e,I 0]])
def sR:LP cx 235 aCu:=λ_ _ _=>AH
def aCv(p q:Aa):IT:=
 .op (.Rq false) [p,.ptr none] λa=>.AE a (.rr [I 1]) (.ln [q] λb=>.loop 4 [I 0,I 0] (λc=>.il [g c 1,b] λd=>.AE d (.ea 1 [q,g c 1] λe=>.ld e λf=>.ca 54 [p,f] λh=>.nt [h] λj=>.AE j (.rr [I 3,g c 1]) (.ia [g c 1,I 1] λk=>.rn [g c 0,k])) (.rx 0 [g c 0,g c 1])) (lx 0 (λm=>.rr [I 0]) λm=>.rr [g m 0]))
def sS:DB cx 236 aCv:=λ_ _=>AH
def yx(p q:Aa):IT:=
 .ca 153 [p,q] λa=>.fa a 0 λ_ b=>.fl b 1 λ_ c=>.ie [c,I 0] λd=>.AE d (.rr [.tuple []]) (.fa a 0 λ_ e=>.fl e 1 λ_ f=>.ca 153 [p,f] λh=>.fa h 0 λ_ j=>.fl j 2 λ_ k=>.ca 173 [k,q] λm=>.fa h 0 λ_ n=>.fl n 2 λ_ o=>.ia [m,I 1] λs=>.ca 363 [o,m,s] λu=>.fa h 0 λ_ w=>.op (.EN 2) [w] λy=>.store 1 y u (.fa a 0 λ_ z=>.op (.EN 1) [z] λa0=>.store 1 a0 i0 (.rr [.tuple []])))
def cD:DB cx 238 yx:=λ_ _=>AH
def aCw(p q:Aa):IT:=
 .Bk 366 [p] λa=>.Bk 366 [q] λb=>.se [a,b] λc=>.rr [c]
def sT:DB cx 240 aCw:=λ_ _=>AH
def aHk(p q:Aa):IT:=
 .fl q 3 λ_ a=>.lt [a] λb=>.lt [p] λc=>.ih [b,c] λd=>.AE d (.fl q 3 λ_ e=>.lt [p] λf=>.op (.HO 0 true false true) [e,f] λh=>.Bk 240 [h,p] λj=>.rr [j]) (.rr [ff])
def yy:DB cx 241 aHk:=λ_ _=>AH
def aHl(p q:Aa):IT:=
 .ca 367 [p,q] λa=>.ih [a,I 0] λb=>.rr [b]
def yz:DB cx 242 aHl:=λ_ _=>AH
def aCx(p q:Aa):IT:=
 .ca 368 [q] λa=>.ca 311 [a,p] λb=>.rr [b]
def sU:DB cx 243 aCx:=λ_ _=>AH
def y_(p q:Aa):IT:=
 .ca 180 [p,q] λa=>.il [a,I 1] λb=>.AE b (.rr [ff]) (.Bt p 0 λ_ _ c=>.ca 369 [c,a] λd=>.fa p 0 λ_ e=>.store 1 e d (.rr [tt]))
def cE:DB cx 244 y_:=λ_ _=>AH
def aHm(p q r:Aa):IT:=
 .ca 368 [q] λa=>.ln [a] λb=>.loop 1 [I 0] (λc=>.il [g c 0,b] λd=>.AE d (.ea 1 [a,g c 0] λe=>.ld e λf=>.HQ p f r (.ia [g c 0,I 1] λh=>.rn [h])) (.rx 0 [g c 0])) (lx 0 (λj=>.rr [.tuple []]) λj=>.rr [.tuple []])
def za:LP cx 245 aHm:=λ_ _ _=>AH
def aHn(p:Aa):IT:=
 .Bt p 0 λ_ _ a=>.fa p 1 λ_ b=>.load (some 12) b λc=>.ca 31 [a,c] λd=>.rr [d]
def zb:Ek cx 246 aHn:=λ_=>AH
def aHo(p:Aa):IT:=
 .cells 1 p λa=>.rr [.func (.func 370) [] [.Cq [g a 0]]]
def zc:Ek cx 247 aHo:=λ_=>AH
def aHp(p:Aa):IT:=
 .Bt p 0 λ_ _ a=>.ca 72 [a] λ_=>.Bt p 0 λ_ _ b=>.fa p 1 λ_ c=>.load (some 12) c λd=>.ca 65 [b,d] λ_=>.rr [.tuple []]
def zd:Ek cx 248 aHp:=λ_=>AH
def aHq(p:Aa):IT:=
 .Bt p 0 λ_ _ a=>.ca 72 [a] λ_=>.Bt p 0 λ_ _ b=>.ca 187 [b] λc=>.cells 4 c λd=>.ie [g d 1,I 1] λe=>.AE e (.Bk 371 [g d 2] λf=>.AE f (.Bt p 0 λ_ _ h=>.fa h 2 λ_ j=>.ca 82 [j] λ_=>.Bt p 0 λ_ _ k=>.fa p 1 λ_ m=>.load (some 12) m λn=>.ca 65 [k,n] λ_=>.rr [.tuple []]) (.Bt p 0 λ_ _ o=>.fa p 1 λ_ s=>.load (some 12) s λu=>.ca 65 [o,u] λ_=>.rr [.tuple []])) (.Bt p 0 λ_ _ w=>.fa p 1 λ_ y=>.load (some 12) y λz=>.ca 65 [w,z] λ_=>.rr [.tuple []])
def ze:Ek cx 249 aHq:=λ_=>AH
def aHr(p:Aa):IT:=
 .ca 248 [p] λ_=>.Bt p 0 λ_ _ a=>.fa a 17 λ_ b=>.store 1 b tt (.Bt p 0 λ_ _ c=>.fa c 14 λ_ d=>.store 1 d ff (.rr [.tuple []]))
def zf:Ek cx 250 aHr:=λ_=>AH
def aHs(p:Aa):IT:=
 .Bt p 0 λ_ _ a=>.ca 73 [a] λ_=>.Bt p 0 λ_ _ b=>.fa p 1 λ_ c=>.load (some 12) c λd=>.ca 68 [b,d] λ_=>.rr [.tuple []]
def zg:Ek cx 251 aHs:=λ_=>AH
def aHt(p:Aa):IT:=
 .Bt p 0 λ_ _ a=>.ca 73 [a] λ_=>.Bt p 0 λ_ _ b=>.fa p 1 λ_ c=>.load (some 12) c λd=>.ca 65 [b,d] λ_=>.Bt p 0 λ_ _ e=>.fa e 3 λ_ f=>.ca 80 [f] λ_=>.Bt p 0 λ_ _ h=>.fa h 14 λ_ j=>.store 1 j ff (.rr [.tuple []])
def zh:Ek cx 252 aHt:=λ_=>AH
def aHu(p:Aa):IT:=
 .Bt p 0 λ_ _ a=>.Bt a 14 λ_ _ b=>.fa p 1 λ_ c=>.fl c 1 λ_ d=>.se [d,S [104,114]] λe=>.AE e (.Bt p 0 λ_ _ f=>.ca 72 [f] λ_=>.Bt p 0 λ_ _ h=>.fa p 1 λ_ j=>.load (some 12) j λk=>.ca 116 [h,k] λ_=>.Bt p 0 λ_ _ m=>.fa m 14 λ_ n=>.store 1 n ff (.rr [.tuple []])) (.se [d,S [112,97,114,97,109]] λo=>.AE o (.Bt p 0 λ_ _ s=>.fa p 1 λ_ u=>.load (some 12) u λw=>.ca 116 [s,w] λ_=>.Bt p 0 λ_ _ y=>.fa y 14 λ_ z=>.store 1 z b (.rr [.tuple []])) (.se [d,S [115,111,117,114,99,101]] λa0=>.AE a0 (.Bt p 0 λ_ _ a1=>.fa p 1 λ_ a2=>.load (some 12) a2 λa5=>.ca 116 [a1,a5] λ_=>.Bt p 0 λ_ _ a7=>.fa a7 14 λ_ a8=>.store 1 a8 b (.rr [.tuple []])) (.se [d,S [116,114,97,99,107]] λb0=>.AE b0 (.Bt p 0 λ_ _ b1=>.fa p 1 λ_ b2=>.load (some 12) b2 λb3=>.ca 116 [b1,b3] λ_=>.Bt p 0 λ_ _ b4=>.fa b4 14 λ_ b5=>.store 1 b5 b (.rr [.tuple []])) (.se [d,S [105,110,112,117,116]] λb6=>.AE b6 (.Bt p 0 λ_ _ b7=>.ca 73 [b7] λ_=>.AE b (.fa p 1 λ_ b8=>.load (some 12) b8 λb9=>.ca 372 [b9] λc0=>.Bt p 0 λ_ _ c1=>.fa p 1 λ_ c2=>.load (some 12) c2 λc3=>.ca 116 [c1,c3] λ_=>.Bt p 0 λ_ _ c4=>.fa c4 14 λ_ c5=>.store 1 c5 c0 (.rr [.tuple []])) (.Bt p 0 λ_ _ c6=>.fa p 1 λ_ c7=>.load (some 12) c7 λc8=>.ca 116 [c6,c8] λ_=>.Bt p 0 λ_ _ c9=>.fa c9 14 λ_ d0=>.store 1 d0 ff (.rr [.tuple []]))) (.se [d,S [105,109,97,103,101]] λd1=>.AE d1 (.fa p 1 λ_ d2=>.op (.EN 1) [d2] λd3=>.store 1 d3 (S [105,109,103]) (.Bt p 0 λ_ _ d4=>.ca 73 [d4] λ_=>.Bt p 0 λ_ _ d5=>.fa p 1 λ_ d6=>.load (some 12) d6 λd7=>.ca 116 [d5,d7] λ_=>.Bt p 0 λ_ _ d8=>.fa d8 14 λ_ d9=>.store 1 d9 ff (.rr [.tuple []]))) (.Bt p 0 λ_ _ e0=>.ca 73 [e0] λ_=>.Bt p 0 λ_ _ e1=>.fa p 1 λ_ e2=>.load (some 12) e2 λe3=>.ca 116 [e1,e3] λ_=>.Bt p 0 λ_ _ e4=>.fa e4 14 λ_ e5=>.store 1 e5 ff (.rr [.tuple []])))))))
def zi:Ek cx 253 aHu:=λ_=>AH
def aHv(p:Aa):IT:=
 .rr [ff]
def zj:Ek cx 254 aHv:=λ_=>AH
def aHw(p:Aa):IT:=
 .fa p 1 λ_ a=>.fl a 1 λ_ b=>.se [b,S [112,108,97,105,110,116,101,120,116]] λc=>.AE c (.ca 248 [p] λ_=>.Bt p 0 λ_ _ d=>.fa d 18 λ_ e=>.store 1 e (I 5) (.rr [.tuple []])) (.se [b,S [116,101,120,116,97,114,101,97]] λf=>.AE f (.Bt p 0 λ_ _ h=>.fa p 1 λ_ j=>.load (some 12) j λk=>.ca 71 [h,k,I 2] λ_=>.Bt p 0 λ_ _ m=>.fa m 17 λ_ n=>.store 1 n tt (.Bt p 0 λ_ _ o=>.fa o 14 λ_ s=>.store 1 s ff (.rr [.tuple []]))) (.se [b,S [120,109,112]] λu=>.AE u (.Bt p 0 λ_ _ w=>.ca 72 [w] λ_=>.Bt p 0 λ_ _ y=>.ca 73 [y] λ_=>.Bt p 0 λ_ _ z=>.fa z 14 λ_ a0=>.store 1 a0 ff (.Bt p 0 λ_ _ a1=>.fa p 1 λ_ a2=>.load (some 12) a2 λa5=>.ca 71 [a1,a5,I 3] λ_=>.rr [.tuple []])) (.se [b,S [105,102,114,97,109,101]] λa7=>.AE a7 (.Bt p 0 λ_ _ a8=>.fa a8 14 λ_ b0=>.store 1 b0 ff (.Bt p 0 λ_ _ b1=>.fa p 1 λ_ b2=>.load (some 12) b2 λb3=>.ca 71 [b1,b3,I 3] λ_=>.rr [.tuple []])) (.Bt p 0 λ_ _ b4=>.fa p 1 λ_ b5=>.load (some 12) b5 λb6=>.ca 71 [b4,b6,I 3] λ_=>.rr [.tuple []]))))
def zk:Ek cx 255 aHw:=λ_=>AH
def aHx(p:Aa):IT:=
 .ca 373 [p,S [114,117,98,121]] λa=>.AE a (.fa p 1 λ_ b=>.fl b 1 λ_ c=>.se [c,S [114,112]] λd=>.AE d (.Bt p 0 λ_ _ e=>.fa e 2 λ_ f=>.ca 179 [f,S [114,116,99]] λ_=>.Bt p 0 λ_ _ h=>.fa p 1 λ_ j=>.load (some 12) j λk=>.ca 65 [h,k] λ_=>.rr [.tuple []]) (.fa p 1 λ_ m=>.fl m 1 λ_ n=>.se [n,S [114,116]] λo=>.AE o (.Bt p 0 λ_ _ s=>.fa s 2 λ_ u=>.ca 179 [u,S [114,116,99]] λ_=>.Bt p 0 λ_ _ w=>.fa p 1 λ_ y=>.load (some 12) y λz=>.ca 65 [w,z] λ_=>.rr [.tuple []]) (.Bt p 0 λ_ _ a0=>.fa a0 2 λ_ a1=>.ca 179 [a1,S []] λ_=>.Bt p 0 λ_ _ a2=>.fa p 1 λ_ a5=>.load (some 12) a5 λa7=>.ca 65 [a2,a7] λ_=>.rr [.tuple []]))) (.Bt p 0 λ_ _ a8=>.fa p 1 λ_ b0=>.load (some 12) b0 λb1=>.ca 65 [a8,b1] λ_=>.rr [.tuple []])
def zl:Ek cx 256 aHx:=λ_=>AH
def aHy(p:Aa):IT:=
 .fa p 1 λ_ a=>.fl a 1 λ_ b=>.se [b,S [109,97,116,104]] λc=>.AE c (.Bt p 0 λ_ _ d=>.ca 73 [d] λ_=>.Bt p 0 λ_ _ e=>.fa p 1 λ_ f=>.load (some 12) f λh=>.ca 67 [e,h,I 3] λ_=>.fa p 1 λ_ j=>.fl j 9 λ_ k=>.AE k (.Bt p 0 λ_ _ m=>.fa m 2 λ_ n=>.ca 82 [n] λ_=>.rr [.tuple []]) (.rr [.tuple []])) (.Bt p 0 λ_ _ o=>.ca 73 [o] λ_=>.Bt p 0 λ_ _ s=>.fa p 1 λ_ u=>.load (some 12) u λw=>.ca 67 [s,w,I 2] λ_=>.fa p 1 λ_ y=>.fl y 9 λ_ z=>.AE z (.Bt p 0 λ_ _ a0=>.fa a0 2 λ_ a1=>.ca 82 [a1] λ_=>.rr [.tuple []]) (.rr [.tuple []]))
def zm:Ek cx 257 aHy:=λ_=>AH
def aHz(p:Aa):IT:=
 .Bt p 0 λ_ _ a=>.fa a 14 λ_ b=>.store 1 b ff (.fa p 1 λ_ c=>.fl c 1 λ_ d=>.op (.str .neq) [d,S [108,105]] λe=>.Dz 100016 (.AE e (.rn [S [100,100,32,100,116]]) (.rn [S [108,105]])) (nx (λf=>.Bt p 0 λ_ _ h=>.fa h 2 λ_ j=>.ca 183 [j] λk=>.ib [k,I 1] λm=>.loop 5 [m] (λn=>.ih [g n 0,I 0] λo=>.AE o (.Bt p 0 λ_ _ s=>.fa s 2 λ_ u=>.ca 184 [u,g n 0] λw=>.cells 4 w λy=>.Dz 200008 (.ie [g y 1,I 1] λz=>.AE z (.Bk 243 [g y 2,g f 0] λa0=>.rn [a0]) (.rn [ff])) (λx a1=>match x with| .normal=>.AE (g a1 0) (.ca 374 [p,g y 2,g y 2] λ_=>.rx 0 [g n 0]) (.Dz 200010 (.Bk 186 [g y 1,g y 2] λa2=>.AE a2 (.ie [g y 1,I 1] λa5=>.AE a5 (.Bk 243 [g y 2,S [97,100,100,114,101,115,115,32,100,105,118,32,112]] λa7=>.nt [a7] λa8=>.rn [a8]) (.nt [ff] λb0=>.rn [b0])) (.rn [ff])) (λx b1=>match x with| .normal=>.AE (g b1 0) (.rx 0 [g n 0]) (.ib [g n 0,I 1] λb2=>.rn [b2])| .exit i=>if i=2 then .ib [g n 0,I 1] λb3=>.rn [b3] else if i=1 then .ib [g n 0,I 1] λb4=>.rn [b4] else .ret (.exit i) [g n 0]| .ret=>.rr [g n 0]))| .exit i=>if i=2 then .ib [g n 0,I 1] λb5=>.rn [b5] else if i=1 then .ib [g n 0,I 1] λb6=>.rn [b6] else .ret (.exit i) [g n 0]| .ret=>.rr [g n 0])) (.rx 0 [g n 0])) (lx 0 (λb7=>.ca 248 [p] λ_=>.rr [.tuple []]) λb7=>.rr [.tuple []])) λf=>.rr [.tuple []]))
def zn:Ek cx 258 aHz:=λ_=>AH
def aHA(p:Aa):IT:=
 .Bt p 0 λ_ _ a=>.ca 187 [a] λb=>.ca 375 [b,S aWS] λc=>.AE c (.Bt p 0 λ_ _ d=>.fa d 2 λ_ e=>.ca 82 [e] λ_=>.Bt p 0 λ_ _ f=>.ca 73 [f] λ_=>.Bt p 0 λ_ _ h=>.fa p 1 λ_ j=>.load (some 12) j λk=>.ca 65 [h,k] λ_=>.rr [.tuple []]) (.Bt p 0 λ_ _ m=>.ca 73 [m] λ_=>.Bt p 0 λ_ _ n=>.fa p 1 λ_ o=>.load (some 12) o λs=>.ca 65 [n,s] λ_=>.rr [.tuple []])
def zo:Ek cx 259 aHA:=λ_=>AH
def aHB(p:Aa):IT:=
 .Bt p 0 λ_ _ a=>.ca 124 [a] λb=>.AE b (.rr [.tuple []]) (.Bt p 0 λ_ _ c=>.fa c 2 λ_ d=>.ca 183 [d] λe=>.ie [e,I 0] λf=>.AE f (.rr [.tuple []]) (.fa p 1 λ_ h=>.fl h 1 λ_ j=>.se [j,S aWh] λk=>.AE k (.Bt p 0 λ_ m n=>.fa p 1 λ_ o=>.load (some 12) o λs=>.Bt p 0 λ_ _ u=>.fa u 2 λ_ w=>.ca 184 [w,I 0] λy=>.load (some 12) o λz=>.same s z (.ld m λa0=>.same n a0 (.op (.part 0 none) [y] λa1=>.ca 77 [n,s,a1] λ_=>.rr [.tuple []]))) (.ca 376 [p] λa2=>.op (.ext 0) [a2] λa5=>.op (.ext 1) [a2] λa7=>.AE a7 (.Bt p 0 λ_ _ a8=>.fa a8 14 λ_ b0=>.store 1 b0 ff (.Bt p 0 λ_ _ b1=>.fa p 1 λ_ b2=>.load (some 12) b2 λb3=>.ca 77 [b1,b3,a5] λ_=>.rr [.tuple []])) (.rr [.tuple []]))))
def zp:Ek cx 260 aHB:=λ_=>AH
def aHC(p:Aa):IT:=
 .ca 376 [p] λa=>.op (.ext 0) [a] λb=>.op (.ext 1) [a] λc=>.nt [c] λd=>.AE d (.rr [.tuple []]) (.Bt p 0 λ_ _ e=>.Bt e 14 λ_ _ f=>.nt [f] λh=>.AE h (.rr [.tuple []]) (.Bt p 0 λ_ _ j=>.Bt j 0 λ_ _ k=>.ca 377 [k,b] λ_=>.loop 3 [] (λ_=>.Bt p 0 λ_ _ m=>.fa m 2 λ_ n=>.ca 183 [n] λo=>.ig [o,I 1] λs=>.AE s (.Bt p 0 λ_ _ u=>.fa u 2 λ_ w=>.ca 82 [w] λ_=>.rn []) (.rx 0 [])) (lx 0 (λy=>.Bt p 0 λ_ _ z=>.fa p 1 λ_ a0=>.load (some 12) a0 λa1=>.ca 65 [z,a1] λ_=>.Bt p 0 λ_ _ a2=>.fa a2 4 λ_ a5=>.store 1 a5 (I 20) (.rr [.tuple []])) λy=>.rr [.tuple []])))
def zq:Ek cx 261 aHC:=λ_=>AH
def aHD(p:Aa):IT:=
 .Bt p 0 λ_ _ a=>.ca 124 [a] λb=>.Bt p 0 λ_ _ c=>.Bt c 8 λ_ _ d=>.iq [d,I 0] λe=>.AE e (.nt [b] λf=>.AE f (.rr [.tuple []]) (.Bt p 0 λ_ _ h=>.ca 72 [h] λ_=>.Bt p 0 λ_ _ j=>.fa p 1 λ_ k=>.load (some 12) k λm=>.ca 65 [j,m] λn=>.nt [b] λo=>.AE o (.Bt p 0 λ_ _ s=>.fa s 8 λ_ u=>.store 1 u n (.rr [.tuple []])) (.rr [.tuple []]))) (.Bt p 0 λ_ _ w=>.ca 72 [w] λ_=>.Bt p 0 λ_ _ y=>.fa p 1 λ_ z=>.load (some 12) z λa0=>.ca 65 [y,a0] λa1=>.nt [b] λa2=>.AE a2 (.Bt p 0 λ_ _ a5=>.fa a5 8 λ_ a7=>.store 1 a7 a1 (.rr [.tuple []])) (.rr [.tuple []]))
def zr:Ek cx 262 aHD:=λ_=>AH
def aHE(p:Aa):IT:=
 .ca 373 [p,S aWk] λa=>.AE a (.ca 374 [p,S aWk,S []] λ_=>.Bt p 0 λ_ _ b=>.ca 73 [b] λ_=>.Bt p 0 λ_ _ c=>.fa p 1 λ_ d=>.load (some 12) d λe=>.ca 65 [c,e] λ_=>.Bt p 0 λ_ _ f=>.fa f 14 λ_ h=>.store 1 h ff (.rr [.tuple []])) (.Bt p 0 λ_ _ j=>.ca 73 [j] λ_=>.Bt p 0 λ_ _ k=>.fa p 1 λ_ m=>.load (some 12) m λn=>.ca 65 [k,n] λ_=>.Bt p 0 λ_ _ o=>.fa o 14 λ_ s=>.store 1 s ff (.rr [.tuple []]))
def zt:Ek cx 263 aHE:=λ_=>AH
def aHF(p:Aa):IT:=
 .Bt p 0 λ_ _ a=>.fa a 3 λ_ b=>.ca 330 [b,S [97]] λc=>.ih [c,I 0] λd=>.AE d (.Bt p 0 λ_ _ e=>.fa e 3 λ_ f=>.fl f 0 λ_ h=>.ea 3 [h,c] λj=>.fl j 0 λ_ k=>.Bt p 0 λ_ _ m=>.ca 75 [m,S [97]] λ_=>.Bt p 0 λ_ _ n=>.fa n 3 λ_ o=>.ca 378 [o,k] λ_=>.Bt p 0 λ_ _ s=>.fa s 2 λ_ u=>.ca 244 [u,k] λ_=>.ca 251 [p] λ_=>.rr [.tuple []]) (.ca 251 [p] λ_=>.rr [.tuple []])
def zu:Ek cx 264 aHF:=λ_=>AH
def aHG(p:Aa):IT:=
 .Bt p 0 λ_ _ a=>.ca 73 [a] λ_=>.ca 373 [p,S [110,111,98,114]] λb=>.AE b (.Bt p 0 λ_ _ c=>.ca 75 [c,S [110,111,98,114]] λ_=>.Bt p 0 λ_ _ d=>.ca 73 [d] λ_=>.Bt p 0 λ_ _ e=>.fa p 1 λ_ f=>.load (some 12) f λh=>.ca 68 [e,h] λ_=>.rr [.tuple []]) (.Bt p 0 λ_ _ j=>.fa p 1 λ_ k=>.load (some 12) k λm=>.ca 68 [j,m] λ_=>.rr [.tuple []])
def zw:Ek cx 265 aHG:=λ_=>AH
def aHH(p:Aa):IT:=
 .Bt p 0 λ_ _ a=>.Bt a 0 λ_ _ b=>.Bt p 0 λ_ _ c=>.Bt c 1 λ_ _ d=>.ca 163 [b,d] λe=>.op (.ext 0) [e] λf=>.op (.ext 1) [e] λ_=>.cells 13 f λh=>.nt [g h 10] λj=>.AE j (.Bt p 0 λ_ _ k=>.ca 72 [k] λ_=>.Bt p 0 λ_ _ m=>.fa p 1 λ_ n=>.load (some 12) n λo=>.ca 65 [m,o] λ_=>.Bt p 0 λ_ _ s=>.fa s 14 λ_ u=>.store 1 u ff (.Bt p 0 λ_ _ w=>.fa w 4 λ_ y=>.store 1 y (I 9) (.rr [.tuple []]))) (.Bt p 0 λ_ _ z=>.fa p 1 λ_ a0=>.load (some 12) a0 λa1=>.ca 65 [z,a1] λ_=>.Bt p 0 λ_ _ a2=>.fa a2 14 λ_ a5=>.store 1 a5 ff (.Bt p 0 λ_ _ a7=>.fa a7 4 λ_ a8=>.store 1 a8 (I 9) (.rr [.tuple []])))
def zx:Ek cx 266 aHH:=λ_=>AH
def aHI(p:Aa):IT:=
 .Bt p 0 λ_ _ a=>.ca 73 [a] λ_=>.Bt p 0 λ_ _ b=>.fa p 1 λ_ c=>.load (some 12) c λd=>.ca 65 [b,d] λ_=>.Bt p 0 λ_ _ e=>.fa e 14 λ_ f=>.store 1 f ff (.Bt p 0 λ_ _ h=>.Bt h 4 λ_ _ j=>.ie [j,I 9] λk=>.AE k (.Bt p 0 λ_ _ m=>.fa m 4 λ_ n=>.store 1 n (I 17) (.rr [.tuple []])) (.ie [j,I 11] λo=>.AE o (.Bt p 0 λ_ _ s=>.fa s 4 λ_ u=>.store 1 u (I 17) (.rr [.tuple []])) (.ie [j,I 13] λw=>.AE w (.Bt p 0 λ_ _ y=>.fa y 4 λ_ z=>.store 1 z (I 17) (.rr [.tuple []])) (.ie [j,I 14] λa0=>.AE a0 (.Bt p 0 λ_ _ a1=>.fa a1 4 λ_ a2=>.store 1 a2 (I 17) (.rr [.tuple []])) (.ie [j,I 15] λa5=>.AE a5 (.Bt p 0 λ_ _ a7=>.fa a7 4 λ_ a8=>.store 1 a8 (I 17) (.rr [.tuple []])) (.Bt p 0 λ_ _ b0=>.fa b0 4 λ_ b1=>.store 1 b1 (I 16) (.rr [.tuple []])))))))
def zy:Ek cx 267 aHI:=λ_=>AH
def aHJ(p:Aa):IT:=
 .ca 373 [p,S aWZ] λa=>.nt [a] λb=>.AE b (.rr [ff]) (.Bt p 0 λ_ _ c=>.fa c 4 λ_ d=>.store 1 d (I 19) (.fa p 1 λ_ e=>.fl e 1 λ_ f=>.se [f,S aWh] λh=>.rr [h]))
def z_:Ek cx 268 aHJ:=λ_=>AH
def aHK(p:Aa):IT:=
 .fa p 1 λ_ a=>.fl a 1 λ_ b=>.ca 373 [p,b] λc=>.AE c (.fa p 1 λ_ d=>.fl d 1 λ_ e=>.ca 374 [p,e,S []] λ_=>.rr [.tuple []]) (.rr [.tuple []])
def A_:Ek cx 269 aHK:=λ_=>AH
def aHL(p:Aa):IT:=
 .Bt p 0 λ_ _ a=>.fa p 1 λ_ b=>.fl b 1 λ_ c=>.ca 75 [a,c] λ_=>.rr [.tuple []]
def B_:Ek cx 270 aHL:=λ_=>AH
def aHM(p:Aa):IT:=
 .ca 368 [S aWB] λa=>.Bt p 0 λ_ _ b=>.fa b 2 λ_ c=>.ca 178 [c,I 1,a] λd=>.AE d (.Bt p 0 λ_ _ e=>.fa e 2 λ_ f=>.ca 179 [f,S []] λ_=>.Bt p 0 λ_ _ h=>.fa h 2 λ_ j=>.ca 84 [j,a] λ_=>.rr [.tuple []]) (.rr [.tuple []])
def C_:Ek cx 271 aHM:=λ_=>AH
def aHN(p:Aa):IT:=
 .fa p 1 λ_ a=>.fl a 1 λ_ b=>.ca 373 [p,b] λc=>.AE c (.fa p 1 λ_ d=>.fl d 1 λ_ e=>.ca 374 [p,e,S []] λ_=>.Bt p 0 λ_ _ f=>.fa f 3 λ_ h=>.ca 83 [h] λ_=>.rr [.tuple []]) (.rr [.tuple []])
def D_:Ek cx 272 aHN:=λ_=>AH
def aHO(p:Aa):IT:=
 .fa p 1 λ_ a=>.fl a 1 λ_ b=>.se [b,S [112]] λc=>.AE c (.Bt p 0 λ_ _ d=>.fa d 2 λ_ e=>.op (.BI 1) [b] λf=>.ca 178 [e,I 3,f] λh=>.nt [h] λj=>.AE j (.op (.str .neq) [b,S [112]] λk=>.AE k (.rr [.tuple []]) (.Bt p 0 λ_ m n=>.ca 115 [S [112]] λo=>.ld m λs=>.same n s (.ca 65 [n,o] λ_=>.ca 374 [p,b,b] λ_=>.rr [.tuple []]))) (.ca 374 [p,b,b] λ_=>.rr [.tuple []])) (.se [b,S [108,105]] λu=>.AE u (.Bt p 0 λ_ _ w=>.fa w 2 λ_ y=>.op (.BI 1) [b] λz=>.ca 178 [y,I 2,z] λa0=>.nt [a0] λa1=>.AE a1 (.op (.str .neq) [b,S [112]] λa2=>.AE a2 (.rr [.tuple []]) (.Bt p 0 λ_ a5 a7=>.ca 115 [S [112]] λa8=>.ld a5 λb0=>.same a7 b0 (.ca 65 [a7,a8] λ_=>.ca 374 [p,b,b] λ_=>.rr [.tuple []]))) (.ca 374 [p,b,b] λ_=>.rr [.tuple []])) (.Bt p 0 λ_ _ b1=>.fa b1 2 λ_ b2=>.op (.BI 1) [b] λb3=>.ca 178 [b2,I 1,b3] λb4=>.nt [b4] λb5=>.AE b5 (.op (.str .neq) [b,S [112]] λb6=>.AE b6 (.rr [.tuple []]) (.Bt p 0 λ_ b7 b8=>.ca 115 [S [112]] λb9=>.ld b7 λc0=>.same b8 c0 (.ca 65 [b8,b9] λ_=>.ca 374 [p,b,b] λ_=>.rr [.tuple []]))) (.ca 374 [p,b,b] λ_=>.rr [.tuple []])))
def E_:Ek cx 273 aHO:=λ_=>AH
def aHP(p:Aa):IT:=
 .Bt p 0 λ_ _ a=>.ca 124 [a] λb=>.AE b (.ca 269 [p] λ_=>.rr [.tuple []]) (.Bt p 0 λ_ _ c=>.Bt c 8 λ_ _ d=>.Bt p 0 λ_ _ e=>.fa e 8 λ_ f=>.store 1 f i0 (.iq [d,I 0] λh=>.AE h (.Bt p 0 λ_ _ j=>.fa j 2 λ_ k=>.ca 332 [k,I 1,d] λm=>.AE m (.Bt p 0 λ_ _ n=>.fa n 2 λ_ o=>.ca 179 [o,S []] λ_=>.Bt p 0 λ_ _ s=>.fa s 2 λ_ u=>.ca 244 [u,d] λ_=>.rr [.tuple []]) (.rr [.tuple []])) (.rr [.tuple []])))
def F_:Ek cx 274 aHP:=λ_=>AH
def aHQ(p:Aa):IT:=
 .ca 115 [S [98,114]] λa=>.fa p 1 λ_ b=>.store 12 b a (.ca 253 [p] λ_=>.rr [.tuple []])
def G_:Ek cx 275 aHQ:=λ_=>AH
def UQ(p q r u:Aa):IT:=
 .Dz 200001 (.ca 281 [p,q] λa=>.nt [a] λb=>.AE b (.rn [tt]) (.ca 281 [p,r] λc=>.nt [c] λd=>.AE d (.rn [tt]) (.iq [u,I 0] λe=>.AE e (.ca 281 [p,u] λf=>.nt [f] λh=>.rn [h]) (.rn [ff])))) (nx (λj=>.AE (g j 0) (.rr [I 3]) (.Bt p 0 λ_ _ k=>.ea 13 [k,q] λm=>.fl m 0 λ_ n=>.Bt p 0 λ_ _ o=>.ea 13 [o,r] λs=>.fl s 0 λ_ w=>.Dz 200004 (.iq [n,I 1] λy=>.AE y (.iq [n,I 2] λz=>.AE z (.iq [n,I 4] λa0=>.rn [a0]) (.rn [ff])) (.rn [ff])) (nx (λa1=>.AE (g a1 0) (.rr [I 4]) (.Dz 200006 (.ie [w,I 1] λa2=>.AE a2 (.rn [tt]) (.ie [w,I 2] λa5=>.AE a5 (.rn [tt]) (.ca 379 [p,r,q] λa7=>.rn [a7]))) (nx (λa8=>.AE (g a8 0) (.rr [I 4]) (.Dz 200008 (.iq [u,I 0] λb0=>.AE b0 (.ie [u,r] λb1=>.AE b1 (.rn [tt]) (.Bt p 0 λ_ _ b2=>.ea 13 [b2,u] λb3=>.fl b3 1 λ_ b4=>.iq [b4,q] λb5=>.rn [b5])) (.rn [ff])) (nx (λb6=>.AE (g b6 0) (.rr [I 5]) (.rr [I 0])) λb6=>.rr [I 0]))) λa8=>.rr [I 0]))) λa1=>.rr [I 0]))) λj=>.rr [I 0])
def Ki:qm cx 277 UQ:=λ_ _ _ _=>AH
def aCy(p q:Aa):IT:=
 .ca 281 [p,q] λa=>.nt [a] λb=>.AE b (.rr [I 3]) (.Bt p 0 λ_ _ c=>.ea 13 [c,q] λd=>.fl d 1 λ_ e=>.iq [e,I 0] λf=>.AE f (.Bt p 0 λ_ h j=>.Bt p 0 λ_ _ k=>.ea 13 [k,e] λm=>.fl m 2 λ_ n=>.ca 380 [n,q] λo=>.ld h λs=>.same j s (.ea 13 [j,e] λu=>.op (.EN 2) [u] λw=>.store 1 w o (.Bt p 0 λ_ _ y=>.ea 13 [y,q] λz=>.op (.EN 1) [z] λa0=>.store 1 a0 i0 (.rr [I 0])))) (.rr [I 0]))
def sV:DB cx 278 aCy:=λ_ _=>AH
def aHR(p q:Aa):IT:=
 .ig [q,I 0] λa=>.AE a (.Bt p 0 λ_ _ b=>.ln [b] λc=>.il [q,c] λd=>.rr [d]) (.rr [ff])
def H_:DB cx 281 aHR:=λ_ _=>AH
def aHS(p q:Aa):IT:=
 .cells 3 p λa=>.cells 3 q λb=>.op (.str .neq) [g a 1,g b 1] λc=>.AE c (.rr [ff]) (.ln [g a 2] λd=>.ln [g b 2] λe=>.iq [d,e] λf=>.AE f (.rr [ff]) (.loop 4 [ff,I 0] (λh=>.ln [g a 2] λj=>.il [g h 1,j] λk=>.AE k (.ea 3 [g a 2,g h 1] λm=>.load (some 3) m λn=>.ca 382 [g b 2,n] λo=>.nt [o] λs=>.AE s (.rr [ff,g h 1]) (.ea 3 [g b 2,g h 1] λu=>.load (some 3) u λw=>.ca 382 [g a 2,w] λy=>.nt [y] λz=>.AE z (.rr [ff,g h 1]) (.ia [g h 1,I 1] λa0=>.rn [g h 0,a0]))) (.rx 0 [g h 0,g h 1])) (lx 0 (λa1=>.rr [tt]) λa1=>.rr [g a1 0])))
def I_:DB cx 282 aHS:=λ_ _=>AH
def aHT(p q:Aa):IT:=
 .loop 3 [.slnil,I 0] (λa=>.ln [p] λb=>.il [g a 1,b] λc=>.AE c (.iq [g a 1,q] λd=>.AE d (.ea 3 [p,g a 1] λe=>.load (some 3) e λf=>.op (.BI 3) [f] λh=>.op (.append 3 48) [g a 0,h] λj=>.ia [g a 1,I 1] λk=>.rn [j,k]) (.ia [g a 1,I 1] λm=>.rn [g a 0,m])) (.rx 0 [g a 0,g a 1])) (lx 0 (λn=>.rr [g n 0]) λn=>.rr [.slnil])
def J_:DB cx 283 aHT:=λ_ _=>AH
def aHU(p q:Aa):IT:=
 .loop 3 [I (-1),I 0] (λa=>.ln [p] λb=>.il [g a 1,b] λc=>.AE c (.ea 4 [p,g a 1] λd=>.fl d 0 λ_ e=>.ie [e,q] λf=>.AE f (.ia [g a 1,I 1] λh=>.rn [g a 1,h]) (.ia [g a 1,I 1] λj=>.rn [g a 0,j])) (.rx 0 [g a 0,g a 1])) (lx 0 (λk=>.rr [g k 0]) λk=>.rr [I 0])
def K_:DB cx 284 aHU:=λ_ _=>AH
def aHV(p q:Aa):IT:=
 .loop 2 [ff,I 0] (λa=>.lt [p] λb=>.il [g a 1,b] λc=>.AE c (.op .Qd [p,g a 1] λd=>.ie [d,q] λe=>.AE e (.rr [tt,g a 1]) (.ia [g a 1,I 1] λf=>.rn [g a 0,f])) (.rx 0 [g a 0,g a 1])) (lx 0 (λh=>.rr [ff]) λh=>.rr [g h 0])
def L_:DB cx 285 aHV:=λ_ _=>AH
end Go.Am
