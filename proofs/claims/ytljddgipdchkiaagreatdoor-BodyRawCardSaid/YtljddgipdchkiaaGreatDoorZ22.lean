/- Lemmas -/
import Derived.Test.YtljddgipdchkiaaGreatDoorZ9
import Derived.Test.YtljddgipdchkiaaGreatDoorZ17
set_option linter.all false
namespace Go.Am
open Go
def aHW(p q r:Aa):IT:=
 .ca 284 [p,r] λa=>.ih [a,I 0] λb=>.AE b (.ca 349 [p,a,q] λc=>.rr [c]) (.rr [ff])
def M_:LP cx 293 aHW:=λ_ _ _=>AH
def aHX(p q:Aa):IT:=
 .cells 13 p λa=>.cells 13 q λb=>.ca 386 [WS a,WS b] λc=>.AE c (.ca 144 [g a 2,g b 2] λd=>.AE d (.ie [g a 1,g b 1] λe=>.AE e (.ie [g a 3,g b 3] λf=>.AE f (.ie [g a 11,g b 11] λh=>.AE h (.ie [g a 12,g b 12] λj=>.rr [j]) (.rr [ff])) (.rr [ff])) (.rr [ff])) (.rr [ff])) (.rr [ff])
def N_:DB cx 295 aHX:=λ_ _=>AH
def aCz(p:Aa):IT:=
 .fa p 0 λ_ a=>.load (some 13) a λb=>.cells 13 b λc=>.fa p 0 λ_ d=>.fl d 2 λ_ e=>.fa p 0 λ_ f=>.fl f 6 λh j=>.ca 387 [e] λk=>.ld h λm=>.same j m (.ca 100147 [j] λn=>.cells 1 k λo=>.cells 1 n λs=>.cells 13 (.agg [g c 0,g c 1,g o 0,g c 3,g c 4,g c 5,g s 0,g c 7,g c 8,g c 9,g c 10,g c 11,g c 12]) λu=>.rr [WS u])
def sW:Ek cx 296 aCz:=λ_=>AH
def aHY(p:Aa):IT:=
 .cells 13 p λa=>.op (.append 1 8) [.slnil,g a 2] λb=>.cells 1 b λc=>.op (.append 3 40) [.slnil,g a 6] λd=>.cells 1 d λe=>.cells 13 (.agg [g a 0,g a 1,g c 0,g a 3,g a 4,g a 5,g e 0,g a 7,g a 8,g a 9,g a 10,g a 11,g a 12]) λf=>.rr [WS f]
def O_:Ek cx 297 aHY:=λ_=>AH
def aCA(p q:Aa):IT:=
 .ca 396 [p,q] λa=>.ih [a,I 0] λb=>.rr [b]
def sX:DB cx 305 aCA:=λ_ _=>AH
def P_(p q:Aa):IT:=
 .ca 54 [p,q] λa=>.nt [a] λb=>.AE b (.rr [.slnil]) (.ca 153 [p,q] λc=>.fa c 0 λ_ d=>.fl d 2 λ_ e=>.ca 387 [e] λf=>.rr [f])
def cF:DB cx 306 P_:=λ_ _=>AH
def aCB(p q:Aa):IT:=
 .ld q λa=>.ca 172 [a,p] λb=>.op (.part 0 none) [b] λc=>.ie [c,I 4] λd=>.rr [d]
def sY:DB cx 307 aCB:=λ_ _=>AH
def aCC(p q r:Aa):IT:=
 .cells 4 q λa=>.op (.HO 4 false false true) [p,r] λb=>.op (.append 4 40) [.slnil,b] λc=>.op (.BI 4) [a4 a] λd=>.op (.append 4 40) [c,d] λe=>.op (.HO 4 false true false) [p,r] λf=>.op (.append 4 40) [e,f] λh=>.rr [h]
def sZ:LP cx 308 aCC:=λ_ _ _=>AH
def l_(p q:Aa):IT:=
 .ln [p] λa=>.loop 2 [I 0,I 0] (λb=>.il [g b 1,a] λc=>.AE c (.ea 3 [p,g b 1] λd=>.load (some 3) d λe=>.Es q [e] λf=>.AE f (.rr [g b 1,g b 1]) (.ia [g b 1,I 1] λh=>.rn [g b 0,h])) (.rx 0 [g b 0,g b 1])) (lx 0 (λj=>.rr [I (-1)]) λj=>.rr [g j 0])
def Vw:DB cx 309 l_:=λ_ _=>AH
def aCD(p:Aa):IT:=
 .cells 3 p λa=>.ie [g a 0,I 0] λb=>.AE b (.se [g a 1,S aW9] λc=>.rr [c]) (.rr [ff])
def tC:Ek cx 310 aCD:=λ_=>AH
def aCE(p q:Aa):IT:=
 .ca 397 [p,q] λa=>.ih [a,I 0] λb=>.rr [b]
def tD:DB cx 311 aCE:=λ_ _=>AH
def aHZ(p:Aa):IT:=
 .loop 2 [ff,I 0] (λa=>.ln [p] λb=>.il [g a 1,b] λc=>.AE c (.ea 3 [p,g a 1] λd=>.fl d 0 λ_ e=>.Bk 207 [e] λf=>.nt [f] λh=>.AE h (.rr [ff,g a 1]) (.ia [g a 1,I 1] λj=>.rn [g a 0,j])) (.rx 0 [g a 0,g a 1])) (lx 0 (λk=>.rr [tt]) λk=>.rr [g k 0])
def Q_:Ek cx 312 aHZ:=λ_=>AH
def aH0(p:Aa):IT:=
 .loop 3 [.slnil,I 0] (λa=>.ln [p] λb=>.il [g a 1,b] λc=>.AE c (.loop 7 [ff,I 0] (λd=>.ln [g a 0] λe=>.il [g d 1,e] λf=>.AE f (.ea 3 [g a 0,g d 1] λh=>.fl h 0 λ_ j=>.ea 3 [p,g a 1] λk=>.fl k 0 λ_ m=>.ie [j,m] λn=>.AE n (.ea 3 [g a 0,g d 1] λo=>.fl o 1 λ_ s=>.ea 3 [p,g a 1] λu=>.fl u 1 λ_ w=>.se [s,w] λy=>.AE y (.ia [g d 1,I 1] λz=>.rn [tt,z]) (.ia [g d 1,I 1] λa0=>.rn [g d 0,a0])) (.ia [g d 1,I 1] λa1=>.rn [g d 0,a1])) (.rx 2 [g d 0,g d 1])) (λx a2=>match x with| .normal=>.fail| .exit i=>if i=2 then .nt [g a2 0] λa5=>.AE a5 (.ea 3 [p,g a 1] λa7=>.load (some 3) a7 λa8=>.op (.BI 3) [a8] λb0=>.op (.append 3 40) [g a 0,b0] λb1=>.ia [g a 1,I 1] λb2=>.rn [b1,b2]) (.ia [g a 1,I 1] λb3=>.rn [g a 0,b3]) else if i=1 then .ia [g a 1,I 1] λb4=>.rn [g a 0,b4] else .ret (.exit i) [g a 0,g a 1]| .ret=>.rr [g a 0,g a 1])) (.rx 0 [g a 0,g a 1])) (lx 0 (λb5=>.rr [g b5 0]) λb5=>.rr [.slnil])
def R_:Ek cx 313 aH0:=λ_=>AH
def aH1(p:Aa):IT:=
 .cells 13 p λa=>.ie [g a 0,I 4] λb=>.AE b (.ie [g a 4,I 1] λc=>.AE c (.se [g a 5,S aWb] λd=>.rr [d]) (.rr [ff])) (.rr [ff])
def S_:Ek cx 314 aH1:=λ_=>AH
def aCF(p q:Aa):IT:=
 .Bt p 1 λ_ _ a=>.ea 1 [a,q] λb=>.ld b λc=>.ie [c,I 0] λd=>.AE d (.ca 62 [p,ff] λe=>.Bt p 1 λ_ _ f=>.ea 1 [f,q] λh=>.store 1 h e (.Bt p 1 λ_ _ j=>.ea 1 [j,e] λk=>.store 1 k e (.Bt p 1 λ_ _ m=>.ea 1 [m,q] λn=>.ld n λo=>.rr [o]))) (.Bt p 1 λ_ _ s=>.ea 1 [s,q] λu=>.ld u λw=>.rr [w])
def tE:DB cx 315 aCF:=λ_ _=>AH
def aH2(p:Aa):IT:=
 .loop 3 [.slnil,I 0] (λa=>.lt [p] λb=>.il [g a 1,b] λc=>.AE c (.op .Qd [p,g a 1] λd=>.Bk 398 [d] λe=>.AE e (.ia [d,.int .u8 32] λf=>.op (.BI 1) [f] λh=>.op (.append 1 1) [g a 0,h] λj=>.ia [g a 1,I 1] λk=>.rn [j,k]) (.op (.BI 1) [d] λm=>.op (.append 1 1) [g a 0,m] λn=>.ia [g a 1,I 1] λo=>.rn [n,o])) (.rx 0 [g a 0,g a 1])) (lx 0 (λs=>.LK (g s 0) λu=>.op .Ux [u] λw=>.rr [w]) λs=>.rr [S []])
def T_:Ek cx 316 aH2:=λ_=>AH
def aCG(p q:Aa):IT:=
 .cells 3 p λa=>.cells 3 q λb=>.se [g a 1,g b 1] λc=>.AE c (.ln [g a 2] λd=>.ln [g b 2] λe=>.ie [d,e] λf=>.AE f (.Es (.func (.func 399) [] []) [g a 2,g b 2] λh=>.AE h (.Es (.func (.func 399) [] []) [g b 2,g a 2] λj=>.rr [j]) (.rr [ff])) (.rr [ff])) (.rr [ff])
def tF:DB cx 317 aCG:=λ_ _=>AH
def aCH(p q:Aa):IT:=
 .op (.HO 3 false false true) [p,q] λa=>.op (.append 3 48) [.slnil,a] λb=>.ia [q,I 1] λc=>.op (.HO 3 false true false) [p,c] λd=>.op (.append 3 48) [b,d] λe=>.rr [e]
def tG:DB cx 318 aCH:=λ_ _=>AH
def aCI(p:Aa):IT:=
 .cells 3 p λa=>.ca 147 [g a 2] λb=>.cells 1 b λc=>.cells 3 (.agg [g a 0,g a 1,g c 0]) λd=>.rr [a3 d]
def tH:Ek cx 319 aCI:=λ_=>AH
def aCJ(p:Aa):IT:=
 .fa p 2 λ_ a=>.fa p 2 λ_ b=>.ca 194 [a,S aWl] λc=>.ca 194 [b,S aWb] λd=>.ig [d,c] λe=>.AE e (.fa p 2 λ_ f=>.ca 184 [f,d] λh=>.op (.part 0 none) [h] λj=>.rr [.tuple [j,I 0]]) (.il [c,I 0] λk=>.AE k (.fa p 2 λ_ m=>.ca 184 [m,I 0] λn=>.op (.part 0 none) [n] λo=>.rr [.tuple [o,I 0]]) (.fa p 2 λ_ s=>.ca 184 [s,c] λu=>.op (.part 0 none) [u] λw=>.Bt p 0 λ_ _ y=>.ca 402 [y,w] λz=>.iq [z,I 0] λa0=>.AE a0 (.rr [.tuple [z,w]]) (.fa p 2 λ_ a1=>.ib [c,I 1] λa2=>.op (.Lq true) [a2,I 0] λa5=>.ca 184 [a1,a5] λa7=>.op (.part 0 none) [a7] λa8=>.rr [.tuple [a8,I 0]])))
def tI:Ek cx 320 aCJ:=λ_=>AH
def U_(p q:Aa):IT:=
 .op (.conv .u32) [q] λa=>.ik [a,.int .u32 2047] λb=>.AE b (.op (.int .shr) [q,.int .u64 6] λc=>.op (.conv .u8) [c] λd=>.op (.int .or) [.int .u8 192,d] λe=>.op (.conv .u8) [q] λf=>.op (.int .and) [f,.int .u8 63] λh=>.op (.int .or) [.int .u8 128,h] λj=>.op (.BI 1) [e,j] λk=>.FN 1 1 p k λm=>.rr [m]) (.il [a,.int .u32 55296] λn=>.AE n (.op (.int .shr) [q,.int .u64 12] λo=>.op (.conv .u8) [o] λs=>.op (.int .or) [.int .u8 224,s] λu=>.op (.int .shr) [q,.int .u64 6] λw=>.op (.conv .u8) [w] λy=>.op (.int .and) [y,.int .u8 63] λz=>.op (.int .or) [.int .u8 128,z] λa0=>.op (.conv .u8) [q] λa1=>.op (.int .and) [a1,.int .u8 63] λa2=>.op (.int .or) [.int .u8 128,a2] λa5=>.op (.BI 1) [u,a0,a5] λa7=>.FN 1 1 p a7 λa8=>.rr [a8]) (.il [.int .u32 57343,a] λb0=>.AE b0 (.ik [a,.int .u32 65535] λb1=>.AE b1 (.op (.int .shr) [q,.int .u64 12] λb2=>.op (.conv .u8) [b2] λb3=>.op (.int .or) [.int .u8 224,b3] λb4=>.op (.int .shr) [q,.int .u64 6] λb5=>.op (.conv .u8) [b5] λb6=>.op (.int .and) [b6,.int .u8 63] λb7=>.op (.int .or) [.int .u8 128,b7] λb8=>.op (.conv .u8) [q] λb9=>.op (.int .and) [b9,.int .u8 63] λc0=>.op (.int .or) [.int .u8 128,c0] λc1=>.op (.BI 1) [b4,b8,c1] λc2=>.FN 1 1 p c2 λc3=>.rr [c3]) (.ig [a,.int .u32 65535] λc4=>.AE c4 (.ik [a,.int .u32 1114111] λc5=>.AE c5 (.op (.int .shr) [q,.int .u64 18] λc6=>.op (.conv .u8) [c6] λc7=>.op (.int .or) [.int .u8 240,c7] λc8=>.op (.int .shr) [q,.int .u64 12] λc9=>.op (.conv .u8) [c9] λd0=>.op (.int .and) [d0,.int .u8 63] λd1=>.op (.int .or) [.int .u8 128,d1] λd2=>.op (.int .shr) [q,.int .u64 6] λd3=>.op (.conv .u8) [d3] λd4=>.op (.int .and) [d4,.int .u8 63] λd5=>.op (.int .or) [.int .u8 128,d5] λd6=>.op (.conv .u8) [q] λd7=>.op (.int .and) [d7,.int .u8 63] λd8=>.op (.int .or) [.int .u8 128,d8] λd9=>.op (.BI 1) [c8,d2,d6,d9] λe0=>.FN 1 1 p e0 λe1=>.rr [e1]) (.op (.BI 1) [.int .u8 239,.int .u8 191,.int .u8 189] λe2=>.FN 1 1 p e2 λe3=>.rr [e3])) (.op (.BI 1) [.int .u8 239,.int .u8 191,.int .u8 189] λe4=>.FN 1 1 p e4 λe5=>.rr [e5]))) (.ig [a,.int .u32 65535] λe6=>.AE e6 (.ik [a,.int .u32 1114111] λe7=>.AE e7 (.op (.int .shr) [q,.int .u64 18] λe8=>.op (.conv .u8) [e8] λe9=>.op (.int .or) [.int .u8 240,e9] λf0=>.op (.int .shr) [q,.int .u64 12] λf1=>.op (.conv .u8) [f1] λf2=>.op (.int .and) [f2,.int .u8 63] λf3=>.op (.int .or) [.int .u8 128,f3] λf4=>.op (.int .shr) [q,.int .u64 6] λf5=>.op (.conv .u8) [f5] λf6=>.op (.int .and) [f6,.int .u8 63] λf7=>.op (.int .or) [.int .u8 128,f7] λf8=>.op (.conv .u8) [q] λf9=>.op (.int .and) [f9,.int .u8 63] λh0=>.op (.int .or) [.int .u8 128,h0] λh1=>.op (.BI 1) [f0,f4,f8,h1] λh2=>.FN 1 1 p h2 λh3=>.rr [h3]) (.op (.BI 1) [.int .u8 239,.int .u8 191,.int .u8 189] λh4=>.FN 1 1 p h4 λh5=>.rr [h5])) (.op (.BI 1) [.int .u8 239,.int .u8 191,.int .u8 189] λh6=>.FN 1 1 p h6 λh7=>.rr [h7]))))
def cG:DB cx 321 U_:=λ_ _=>AH
def aCK(p q r:Aa):IT:=
 .cells 1 r λa=>.ca 403 [q] λb=>.cells 1 b λc=>.ca 326 [p,.func (.func 404) [] [.Cq [g a 0],.Cq [g c 0]]] λd=>.ih [d,I 0] λe=>.AE e (.ld (.Cq [g a 0]) λf=>.Bt p 0 λ_ _ h=>.ea 4 [h,d] λj=>.load (some 4) j λk=>.Es f [k] λm=>.rr [m]) (.rr [ff])
def tJ:LP cx 322 aCK:=λ_ _ _=>AH
def aCL(p q:Aa):IT:=
 .cells 4 p λa=>.ld q λb=>.ca 202 [a4 a,b] λc=>.rr [c]
def tK:DB cx 323 aCL:=λ_ _=>AH
def aCM(p q:Aa):IT:=
 .cells 4 p λa=>.iq [g a 1,I 1] λb=>.AE b (.rr [tt]) (.Bk 325 [g a 2] λc=>.nt [c] λd=>.AE d (.rr [tt]) (.ld q λe=>.se [g a 2,e] λf=>.rr [f]))
def tL:DB cx 324 aCM:=λ_ _=>AH
def aCN(p:Aa):IT:=
 .se [p,S [100,100]] λa=>.AE a (.rr [tt]) (.se [p,S [100,116]] λb=>.AE b (.rr [tt]) (.se [p,S [108,105]] λc=>.AE c (.rr [tt]) (.se [p,S aWE] λd=>.AE d (.rr [tt]) (.se [p,S aWS] λe=>.AE e (.rr [tt]) (.se [p,S [112]] λf=>.AE f (.rr [tt]) (.se [p,S [114,98]] λh=>.AE h (.rr [tt]) (.se [p,S [114,112]] λj=>.AE j (.rr [tt]) (.se [p,S [114,116]] λk=>.AE k (.rr [tt]) (.se [p,S [114,116,99]] λm=>.AE m (.rr [tt]) (.rr [ff]))))))))))
def tM:Ek cx 325 aCN:=λ_=>AH
def aCO(p q:Aa):IT:=
 .ca 183 [p] λa=>.ib [a,I 1] λb=>.loop 2 [I 0,b] (λc=>.ih [g c 1,I 0] λd=>.AE d (.Bt p 0 λ_ _ e=>.ea 4 [e,g c 1] λf=>.load (some 4) f λh=>.Es q [h] λj=>.AE j (.rr [g c 1,g c 1]) (.ib [g c 1,I 1] λk=>.rn [g c 0,k])) (.rx 0 [g c 0,g c 1])) (lx 0 (λm=>.rr [I (-1)]) λm=>.rr [g m 0])
def tN:DB cx 326 aCO:=λ_ _=>AH
def aCP(p q:Aa):IT:=
 .cells 4 p λa=>.ld q λb=>.ie [g a 0,b] λc=>.rr [c]
def tO:DB cx 327 aCP:=λ_ _=>AH
def aCQ(p q:Aa):IT:=
 .cells 4 p λa=>.ld q λb=>.ie [g a 0,b] λc=>.rr [c]
def tP:DB cx 328 aCQ:=λ_ _=>AH
def aCR(p q:Aa):IT:=
 .ie [p,I 3] λa=>.AE a (.se [q,S [109,105]] λb=>.AE b (.rr [tt]) (.se [q,S [109,110]] λc=>.AE c (.rr [tt]) (.se [q,S [109,111]] λd=>.AE d (.rr [tt]) (.se [q,S [109,115]] λe=>.AE e (.rr [tt]) (.se [q,S [109,116,101,120,116]] λf=>.rr [f]))))) (.rr [ff])
def tQ:DB cx 329 aCR:=λ_ _=>AH
def aCS(p q:Aa):IT:=
 .op (.Rq false) [p,.ptr none] λa=>.AE a (.rr [I (-1)]) (.Bt p 0 λ_ _ b=>.ln [b] λc=>.ib [c,I 1] λd=>.loop 4 [I 0,d] (λe=>.ih [g e 1,I 0] λf=>.AE f (.Bt p 0 λ_ _ h=>.ea 3 [h,g e 1] λj=>.fl j 0 λ_ k=>.iq [k,I 0] λm=>.AE m (.Bt p 0 λ_ _ n=>.ea 3 [n,g e 1] λo=>.fl o 1 λ_ s=>.se [s,q] λu=>.AE u (.rr [g e 1,g e 1]) (.ib [g e 1,I 1] λw=>.rn [g e 0,w])) (.rx 0 [g e 0,g e 1])) (.rx 0 [g e 0,g e 1])) (lx 0 (λy=>.rr [I (-1)]) λy=>.rr [g y 0]))
def tR:DB cx 330 aCS:=λ_ _=>AH
def aCT(p q r:Aa):IT:=
 .fa q 3 λ_ a=>.fl a 0 λ_ b=>.ca 181 [b] λc=>.ia [r,I 1] λd=>.ca 405 [c,r,d] λe=>.fa q 3 λ_ f=>.op (.EN 0) [f] λh=>.store 1 h e (.Bt p 3 λ_ _ j=>.il [r,j] λk=>.AE k (.Bt p 3 λ_ _ m=>.ib [m,I 1] λn=>.fa p 3 λ_ o=>.store 1 o n (.Bt p 4 λ_ _ s=>.il [r,s] λu=>.AE u (.Bt p 4 λ_ _ w=>.ib [w,I 1] λy=>.fa p 4 λ_ z=>.store 1 z y (.HE 3 q (.rr [.tuple []]))) (.HE 3 q (.rr [.tuple []])))) (.Bt p 4 λ_ _ a0=>.il [r,a0] λa1=>.AE a1 (.Bt p 4 λ_ _ a2=>.ib [a2,I 1] λa5=>.fa p 4 λ_ a7=>.store 1 a7 a5 (.HE 3 q (.rr [.tuple []]))) (.HE 3 q (.rr [.tuple []]))))
def tS:LP cx 331 aCT:=λ_ _ _=>AH
def aCU(p q r:Aa):IT:=
 .cells 1 r λa=>.ca 322 [p,q,.func (.func 406) [] [.Cq [g a 0]]] λb=>.rr [b]
def tT:LP cx 332 aCU:=λ_ _ _=>AH
def aCV(p q:Aa):IT:=
 .ca 180 [p,q] λa=>.ia [a,I 1] λb=>.loop 3 [I 0,b] (λc=>.ih [a,I 0] λd=>.AE d (.ca 183 [p] λe=>.il [g c 1,e] λf=>.AE f (.Bt p 0 λ_ _ h=>.ea 4 [h,g c 1] λj=>.fl j 1 λ_ k=>.Bt p 0 λ_ _ m=>.ea 4 [m,g c 1] λn=>.fl n 2 λ_ o=>.Bk 186 [k,o] λs=>.AE s (.rr [g c 1,g c 1]) (.ia [g c 1,I 1] λu=>.rn [g c 0,u])) (.rx 0 [g c 0,g c 1])) (.rx 0 [g c 0,g c 1])) (lx 0 (λw=>.rr [I (-1)]) λw=>.rr [g w 0])
def tU:DB cx 333 aCV:=λ_ _=>AH
def aCW(p q r u:Aa):IT:=
 .ib [u,I 1] λa=>.loop 2 [I 0,a] (λb=>.ig [g b 1,r] λc=>.AE c (.fa p 2 λ_ d=>.ca 184 [d,g b 1] λe=>.cells 4 e λf=>.ia [g b 0,I 1] λh=>.fa p 3 λ_ j=>.ca 188 [j,g f 0] λk=>.Dz 200007 (.ig [h,I 3] λm=>.AE m (.ih [k,I 0] λn=>.rn [n]) (.rn [ff])) (λx o=>match x with| .normal=>.Dz 100039 (.AE (g o 0) (.ca 331 [q,p,k] λ_=>.fa p 3 λ_ s=>.ca 188 [s,g f 0] λw=>.rn [w]) (.rn [k])) (λx y=>match x with| .normal=>.il [g y 0,I 0] λz=>.AE z (.fa p 2 λ_ a0=>.ca 244 [a0,g f 0] λ_=>.ib [g b 1,I 1] λa1=>.rn [h,a1]) (.fa p 3 λ_ a2=>.fl a2 0 λ_ a5=>.ea 3 [a5,g y 0] λa7=>.load (some 3) a7 λa8=>.cells 3 a8 λb0=>.fa q 5 λ_ b1=>.fl b1 0 λb2 b3=>.ca 182 [a3 b0] λb4=>.ld b2 λb5=>.same b3 b5 (.ca 85 [p,b4,I 1,b3] λb6=>.cells 4 b6 λb7=>.fa p 2 λ_ b8=>.ca 407 [b8,g f 0,a4 b7] λ_=>.fa p 3 λ_ b9=>.op (.BF [I 0,S [],.slnil] [(0,1),(1,1),(2,1)]) [g b7 0,g b0 1,g b0 2] λc0=>.ca 408 [b9,g f 0,c0] λ_=>.Bt q 13 λ_ _ c2=>.fa q 9 λ_ c3=>.fl c3 0 λ_ c4=>.ie [c2,c4] λc5=>.Dz 100104 (.AE c5 (.ia [g y 0,I 1] λc7=>.fa q 4 λ_ c8=>.store 1 c8 c7 (.rn [])) (.rn [])) (λx _=>match x with| .normal=>.Bt q 13 λ_ _ c9=>.ca 159 [p,c9,g b7 0,I 0] λ_=>.fa q 13 λ_ d0=>.store 1 d0 (g b7 0) (.ib [g b 1,I 1] λd1=>.rn [h,d1])| .exit i=>if i=1 then .ib [g b 1,I 1] λd2=>.rn [h,d2] else .ret (.exit i) [h,g b 1]| .ret=>.rr [h,g b 1])))| .exit i=>if i=1 then .ib [g b 1,I 1] λd3=>.rn [h,d3] else .ret (.exit i) [h,g b 1]| .ret=>.rr [h,g b 1])| .exit i=>if i=1 then .ib [g b 1,I 1] λd4=>.rn [h,d4] else .ret (.exit i) [h,g b 1]| .ret=>.rr [h,g b 1])) (.rx 0 [g b 0,g b 1])) (lx 0 (λd5=>.rr [.tuple []]) λd5=>.rr [.tuple []])
def tV:qm cx 334 aCW:=λ_ _ _ _=>AH
def aCX(p q r:Aa):IT:=
 .cells 3 q λa=>.op (.Rq true) [p,.ptr none] λb=>.AE b (.Bt p 0 λ_ c d=>.op (.Lq true) [r,I 0] λe=>.Bt p 0 λ_ f h=>.ln [h] λj=>.op (.Lq false) [e,j] λk=>.ca 319 [a3 a] λm=>.ld f λn=>.same h n (.ld c λo=>.same d o (.ca 196 [d,m,k] λs=>.fa p 0 λ_ u=>.store 1 u s (.rr [.tuple []])))) (.rr [.tuple []])
def tW:LP cx 335 aCX:=λ_ _ _=>AH
def aCY(p q r:Aa):IT:=
 .cells 4 q λa=>.op (.Rq true) [p,.ptr none] λb=>.AE b (.Bt p 0 λ_ _ c=>.op (.Lq true) [r,I 1] λd=>.Bt p 0 λ_ _ e=>.ln [e] λf=>.op (.Lq false) [d,f] λh=>.ca 308 [c,a4 a,h] λj=>.fa p 0 λ_ k=>.store 1 k j (.rr [.tuple []])) (.rr [.tuple []])
def tX:LP cx 336 aCY:=λ_ _ _=>AH
def aCZ:IT:=
 .op (.BF [S [],I 0] [(0,1),(1,1)]) [S [116,114],I 14] λa=>.op (.BF [S [],I 0] [(0,1),(1,1)]) [S aWX,I 13] λb=>.op (.BF [S [],I 0] [(0,1),(1,1)]) [S aWY,I 13] λc=>.op (.BF [S [],I 0] [(0,1),(1,1)]) [S aWU,I 13] λd=>.op (.BF [S [],I 0] [(0,1),(1,1)]) [S aWs,I 11] λe=>.op (.BF [S [],I 0] [(0,1),(1,1)]) [S aWF,I 12] λf=>.op (.BF [S [],I 0] [(0,1),(1,1)]) [S aWl,I 9] λh=>.op (.BF [S [],I 0] [(0,1),(1,1)]) [S aWZ,I 7] λj=>.op (.BF [S [],I 0] [(0,1),(1,1)]) [S aWK,I 20] λk=>.op (.BI 2) [a,b,c,d,e,f,h,j,k] λm=>.rr [m]
def tY:Cd cx 337 []=aCZ:=AH
def aC0(p q:Aa):IT:=
 .ib [q,I 1] λa=>.loop 2 [I 0,a] (λb=>.ih [g b 1,I 0] λc=>.AE c (.fa p 2 λ_ d=>.ca 184 [d,g b 1] λe=>.op (.BI 1) [S aWb] λf=>.ca 162 [e,f] λh=>.AE h (.rx 0 [g b 0,g b 1]) (.fa p 2 λ_ j=>.ca 184 [j,g b 1] λk=>.op (.BI 1) [S aWl] λm=>.ca 162 [k,m] λn=>.AE n (.rr [I 17,g b 1]) (.ib [g b 1,I 1] λo=>.rn [g b 0,o]))) (.rx 0 [g b 0,g b 1])) (lx 0 (λs=>.rr [I 16]) λs=>.rr [g s 0])
def tZ:DB cx 338 aC0:=λ_ _=>AH
def aC1(p:Aa):IT:=
 .ln [p] λa=>.loop 3 [.slnil,ff,.slnil,I 0] (λb=>.il [g b 3,a] λc=>.AE c (.ea 3 [p,g b 3] λd=>.load (some 3) d λe=>.cells 3 e λf=>.op (.BI 1) [g f 0] λh=>.ca 345 [h] λj=>.nt [j] λk=>.AE k (.rr [.slnil,ff,g b 2,g b 3]) (.ca 191 [g b 2,.func (.func 409) [] [.Cq [g f 0,g f 1,g f 2]]] λm=>.nt [m] λn=>.AE n (.load (some 3) (.Cq [g f 0,g f 1,g f 2]) λo=>.op (.BI 3) [o] λs=>.op (.append 3 40) [g b 2,s] λu=>.ia [g b 3,I 1] λw=>.rn [g b 0,g b 1,u,w]) (.ia [g b 3,I 1] λy=>.rn [g b 0,g b 1,g b 2,y]))) (.rx 0 [g b 0,g b 1,g b 2,g b 3])) (lx 0 (λz=>.rr [.tuple [g z 2,tt]]) λz=>.rr [.tuple [g z 0,g z 1]])
def uA:Ek cx 339 aC1:=λ_=>AH
def aC2(p q:Aa):IT:=
 .cells 4 p λa=>.ld q λb=>.op (.BI 1) [b] λc=>.ca 202 [a4 a,c] λd=>.rr [d]
def uB:DB cx 340 aC2:=λ_ _=>AH
def aC3(p:Aa):IT:=
 .cells 4 p λa=>.iq [g a 1,I 1] λb=>.AE b (.rr [tt]) (.Bk 342 [g a 2] λc=>.nt [c] λd=>.rr [d])
def uC:Ek cx 341 aC3:=λ_=>AH
def aC4(p:Aa):IT:=
 .se [p,S aWs] λa=>.AE a (.rr [tt]) (.se [p,S aWF] λb=>.AE b (.rr [tt]) (.se [p,S aWX] λc=>.AE c (.rr [tt]) (.se [p,S [116,100]] λd=>.AE d (.rr [tt]) (.se [p,S aWU] λe=>.AE e (.rr [tt]) (.se [p,S [116,104]] λf=>.AE f (.rr [tt]) (.se [p,S aWY] λh=>.AE h (.rr [tt]) (.se [p,S [116,114]] λj=>.AE j (.rr [tt]) (.Bk 325 [p] λk=>.rr [k]))))))))
def uD:Ek cx 342 aC4:=λ_=>AH
def aC5(p:Aa):IT:=
 .Bk 344 [p,S aV7] λa=>.rr [a]
def uE:Ek cx 343 aC5:=λ_=>AH
def aC6(p q:Aa):IT:=
 .ca 410 [q] λa=>.ln [a] λb=>.loop 2 [S [],I 0] (λc=>.il [g c 1,b] λd=>.AE d (.ea 1 [a,g c 1] λe=>.ld e λf=>.Bk 366 [f] λh=>.se [h,p] λj=>.AE j (.rr [f,g c 1]) (.ia [g c 1,I 1] λk=>.rn [g c 0,k])) (.rx 0 [g c 0,g c 1])) (lx 0 (λm=>.rr [p]) λm=>.rr [g m 0])
def uF:DB cx 344 aC6:=λ_ _=>AH
def aC7(p:Aa):IT:=
 .ln [p] λa=>.loop 2 [ff,I 0] (λb=>.il [g b 1,a] λc=>.AE c (.ea 1 [p,g b 1] λd=>.ld d λe=>.il [e,I 0] λf=>.AE f (.rr [ff,g b 1]) (.ig [e,I 7] λh=>.AE h (.rr [ff,g b 1]) (.ia [g b 1,I 1] λj=>.rn [g b 0,j]))) (.rx 0 [g b 0,g b 1])) (lx 0 (λk=>.rr [tt]) λk=>.rr [g k 0])
def uG:Ek cx 345 aC7:=λ_=>AH
def aC8(p:Aa):IT:=
 .fa p 0 λ_ a=>.fl a 0 λ_ b=>.ie [b,I 4] λc=>.AE c (.fa p 0 λ_ d=>.fl d 4 λ_ e=>.ie [e,I 1] λf=>.AE f (.fa p 0 λ_ h=>.fl h 5 λ_ j=>.se [j,S aWb] λk=>.rr [k]) (.rr [ff])) (.rr [ff])
def uH:Ek cx 346 aC8:=λ_=>AH
def ma(p q:Aa):IT:=
 .Bt p 1 λ_ _ a=>.mem (.bz i0 true) [a,q] λb=>.op (.ext 0) [b] λc=>.op (.ext 1) [b] λd=>.AE d (.rr [c]) (.ca 58 [p,ff] λe=>.Bt p 1 λ_ _ f=>.op (.GC false .mp) [f,.map none] λh=>.AE h (.Nf λj=>.fa p 1 λ_ k=>.store 1 k j (.Bt p 1 λ_ _ m=>.Bt p 1 λ_ _ n=>.mem (.NU i0) [m,q] λo=>.op (.ext 1) [o] λs=>.mem .Lp [m,s,e] λ_=>.mem (.NU i0) [n,e] λu=>.op (.ext 1) [u] λw=>.mem .Lp [n,w,e] λ_=>.rr [e])) (.Bt p 1 λ_ _ y=>.Bt p 1 λ_ _ z=>.mem (.NU i0) [y,q] λa0=>.op (.ext 1) [a0] λa1=>.mem .Lp [y,a1,e] λ_=>.mem (.NU i0) [z,e] λa2=>.op (.ext 1) [a2] λa5=>.mem .Lp [z,a5,e] λ_=>.rr [e]))
def Vx:DB cx 347 ma:=λ_ _=>AH
def aH3(p:Aa):IT:=
 .Bt p 2 λ_ _ a=>.Bt p 2 λ_ b c=>.ca 142 [a,S aWb] λd=>.ld b λe=>.same c e (.ca 142 [c,S aWl] λf=>.Dz 200002 (.ih [d,I 0] λh=>.AE h (.ig [d,f] λj=>.rn [j]) (.rn [ff])) (nx (λk=>.AE (g k 0) (.Bt p 2 λ_ _ m=>.ea 4 [m,d] λn=>.fl n 0 λ_ o=>.rr [.tuple [o,I 0]]) (.il [f,I 0] λs=>.AE s (.Bt p 2 λ_ _ u=>.ca 383 [u,I 0] λw=>.op (.part 0 none) [w] λy=>.rr [.tuple [y,I 0]]) (.Bt p 2 λ_ _ z=>.ea 4 [z,f] λa0=>.fl a0 0 λ_ a1=>.Bt p 0 λ_ _ a2=>.ca 411 [a2,a1] λa5=>.iq [a5,I 0] λa7=>.AE a7 (.Bt p 0 λ_ _ a8=>.ca 411 [a8,a1] λb0=>.rr [.tuple [b0,a1]]) (.ie [f,I 0] λb1=>.AE b1 (.rr [.tuple [a1,I 0]]) (.Bt p 2 λ_ _ b2=>.ib [f,I 1] λb3=>.ea 4 [b2,b3] λb4=>.fl b4 0 λ_ b5=>.rr [.tuple [b5,I 0]]))))) λk=>.rr [.tuple [I 0,I 0]]))
def V_:Ek cx 348 aH3:=λ_=>AH
def aH4(p q r:Aa):IT:=
 .ia [q,I 1] λa=>.loop 2 [ff,a] (λb=>.ln [p] λc=>.il [g b 1,c] λd=>.AE d (.ea 4 [p,g b 1] λe=>.load (some 4) e λf=>.ca 412 [f,r] λh=>.AE h (.rr [ff,g b 1]) (.ia [g b 1,I 1] λj=>.rn [g b 0,j])) (.rx 0 [g b 0,g b 1])) (lx 0 (λk=>.rr [tt]) λk=>.rr [g k 0])
def W_:LP cx 349 aH4:=λ_ _ _=>AH
def aH5(p:Aa):IT:=
 .Bk 139 [S aWe,p] λa=>.rr [a]
def X_:Ek cx 350 aH5:=λ_=>AH
def aH6(p:Aa):IT:=
 .Bk 139 [S aWe,p] λa=>.AE a (.rr [tt]) (.Bk 139 [S aWf,p] λb=>.rr [b])
def Y_:Ek cx 351 aH6:=λ_=>AH
def aH7(p:Aa):IT:=
 .ln [p] λa=>.ib [a,I 1] λb=>.ca 383 [p,b] λc=>.cells 4 c λd=>.rr [a4 d]
def Z_:Ek cx 352 aH7:=λ_=>AH
def aH8(p q:Aa):IT:=
 .ca 228 [p] λa=>.loop 3 [I (-1),a] (λb=>.ln [p] λc=>.il [g b 1,c] λd=>.AE d (.ea 3 [p,g b 1] λe=>.fl e 1 λ_ f=>.se [f,q] λh=>.AE h (.ia [g b 1,I 1] λj=>.rn [g b 1,j]) (.ia [g b 1,I 1] λk=>.rn [g b 0,k])) (.rx 0 [g b 0,g b 1])) (lx 0 (λm=>.rr [g m 0]) λm=>.rr [I 0])
def À:DB cx 353 aH8:=λ_ _=>AH
def aC9(p q:Aa):IT:=
 .Bt p 3 λ_ _ a=>.ca 222 [a,q] λb=>.ih [b,I 0] λc=>.AE c (.Bt p 3 λ_ _ d=>.ca 283 [d,b] λe=>.fa p 3 λ_ f=>.store 1 f e (.rr [.tuple []])) (.rr [.tuple []])
def uI:DB cx 354 aC9:=λ_ _=>AH
def aH9(p q:Aa):IT:=
 .ca 284 [p,q] λa=>.il [a,I 0] λb=>.AE b (.rr [I (-1)]) (.ia [a,I 1] λc=>.loop 5 [I 0,c] (λd=>.ln [p] λe=>.il [g d 1,e] λf=>.AE f (.ea 4 [p,g d 1] λh=>.fl h 1 λ_ j=>.ea 4 [p,g d 1] λk=>.fl k 2 λ_ m=>.Bk 220 [j,m] λn=>.AE n (.rr [g d 1,g d 1]) (.ia [g d 1,I 1] λo=>.rn [g d 0,o])) (.rx 0 [g d 0,g d 1])) (lx 0 (λs=>.rr [I (-1)]) λs=>.rr [g s 0]))
def Á:DB cx 355 aH9:=λ_ _=>AH
def aIa(p q r u w:Aa):IT:=
 .Bt p 2 λ_ _ a=>.ea 4 [a,u] λb=>.fl b 0 λ_ c=>.ib [u,I 1] λd=>.loop 4 [c,q,d] (λe=>.ig [g e 2,r] λf=>.AE f (.Bt p 2 λ_ _ h=>.ea 4 [h,g e 2] λj=>.load (some 4) j λk=>.cells 4 k λm=>.Bt p 3 λ_ _ n=>.ca 222 [n,g m 0] λo=>.Dz 200008 (.ib [u,g e 2] λs=>.ig [s,I 3] λy=>.AE y (.ih [o,I 0] λz=>.rn [z]) (.rn [ff])) (λx a0=>match x with| .normal=>.Dz 100058 (.AE (g a0 0) (.Bt p 3 λ_ _ a1=>.ca 283 [a1,o] λa2=>.fa p 3 λ_ a5=>.store 1 a5 a2 (.il [o,g e 1] λa7=>.Dz 100070 (.AE a7 (.ib [g e 1,I 1] λa8=>.rn [a8]) (.rn [g e 1])) (λx b0=>match x with| .normal=>.rn [g b0 0,I (-1)]| .exit i=>.ret (.exit i) [g b0 0,o]| .ret=>.rr [g b0 0,o]))) (.rn [g e 1,o])) (λx b1=>match x with| .normal=>.il [g b1 1,I 0] λb2=>.AE b2 (.Bt p 2 λ_ _ b3=>.op (.HO 4 false false true) [b3,g e 2] λb4=>.op (.append 4 40) [.slnil,b4] λb5=>.Bt p 2 λ_ _ b6=>.ia [g e 2,I 1] λb7=>.op (.HO 4 false true false) [b6,b7] λb8=>.op (.append 4 40) [b5,b8] λb9=>.fa p 2 λ_ c0=>.store 1 c0 b9 (.ib [g e 2,I 1] λc1=>.rn [g e 0,g b1 0,c1])) (.Bt p 3 λ_ _ c2=>.ea 3 [c2,g b1 1] λc3=>.load (some 3) c3 λc4=>.cells 3 c4 λc5=>.op (.BF [I 0,S [],ff,S [],ff,S [],ff,ff,.slnil,ff,S [],.int .i32 0] [(0,1),(1,1),(8,1)]) [I 2,g c5 1,g c5 2] λc6=>.ca 104 [p,c6,I 1,w] λc8=>.cells 4 c8 λc9=>.Bt p 2 λ_ _ d0=>.op (.HO 4 false false true) [d0,g e 2] λd1=>.op (.append 4 40) [.slnil,d1] λd2=>.op (.BI 4) [a4 c9] λd3=>.op (.append 4 40) [d2,d3] λd4=>.Bt p 2 λ_ _ d5=>.ia [g e 2,I 1] λd6=>.op (.HO 4 false true false) [d5,d6] λd7=>.op (.append 4 40) [d4,d7] λd8=>.fa p 2 λ_ d9=>.store 1 d9 d8 (.cells 1 (g c9 0) λe0=>.Bt p 3 λ_ _ e1=>.ca 283 [e1,g b1 1] λe2=>.ca 100 [e2,.agg [g e0 0,g c5 1,g c5 2],g b1 1] λe3=>.fa p 3 λ_ e4=>.store 1 e4 e3 (.ie [g e 0,c] λe5=>.Dz 100146 (.AE e5 (.ia [g b1 1,I 1] λe6=>.rn [e6]) (.rn [g b1 0])) (λx e7=>match x with| .normal=>.Bt p 0 λ_ _ e8=>.ca 129 [e8,g c9 0,g e 0,I 0] λ_=>.ib [g e 2,I 1] λe9=>.rn [g c9 0,g e7 0,e9]| .exit i=>if i=1 then .ib [g e 2,I 1] λf0=>.rn [g e 0,g e7 0,f0] else .ret (.exit i) [g e 0,g e7 0,g e 2]| .ret=>.rr [g e 0,g e7 0,g e 2]))))| .exit i=>if i=1 then .ib [g e 2,I 1] λf1=>.rn [g e 0,g b1 0,f1] else .ret (.exit i) [g e 0,g b1 0,g e 2]| .ret=>.rr [g e 0,g b1 0,g e 2])| .exit i=>if i=1 then .ib [g e 2,I 1] λf2=>.rn [g e 0,g e 1,f2] else .ret (.exit i) [g e 0,g e 1,g e 2]| .ret=>.rr [g e 0,g e 1,g e 2])) (.rx 0 [g e 0,g e 1,g e 2])) (lx 0 (λf3=>.rr [.tuple [g f3 0,g f3 1]]) λf3=>.rr [.tuple [I 0,I 0]])
def Â:Tq5 cx 356 aIa:=λ_ _ _ _ _=>AH
def aIb(p q r:Aa):IT:=
 .cells 4 q λa=>.il [r,I 1] λb=>.AE b (.ln [p] λc=>.ig [I 1,c] λd=>.AE d (.ln [p] λe=>.op (.HO 4 false false true) [p,e] λf=>.op (.append 4 40) [.slnil,f] λh=>.op (.BI 4) [a4 a] λj=>.op (.append 4 40) [h,j] λk=>.op (.HO 4 false true false) [p,e] λm=>.op (.append 4 40) [k,m] λn=>.rr [n]) (.op (.HO 4 false false true) [p,I 1] λo=>.op (.append 4 40) [.slnil,o] λs=>.op (.BI 4) [a4 a] λu=>.op (.append 4 40) [s,u] λw=>.op (.HO 4 false true false) [p,I 1] λy=>.op (.append 4 40) [w,y] λz=>.rr [z])) (.ln [p] λa0=>.ig [r,a0] λa1=>.AE a1 (.ln [p] λa2=>.op (.HO 4 false false true) [p,a2] λa5=>.op (.append 4 40) [.slnil,a5] λa7=>.op (.BI 4) [a4 a] λa8=>.op (.append 4 40) [a7,a8] λb0=>.op (.HO 4 false true false) [p,a2] λb1=>.op (.append 4 40) [b0,b1] λb2=>.rr [b2]) (.op (.HO 4 false false true) [p,r] λb3=>.op (.append 4 40) [.slnil,b3] λb4=>.op (.BI 4) [a4 a] λb5=>.op (.append 4 40) [b4,b5] λb6=>.op (.HO 4 false true false) [p,r] λb7=>.op (.append 4 40) [b6,b7] λb8=>.rr [b8]))
def Ã:LP cx 357 aIb:=λ_ _ _=>AH
def aIc(p q:Aa):IT:=
 .ib [q,I 1] λa=>.loop 2 [I 0,a] (λb=>.ih [g b 1,I 0] λc=>.AE c (.Bt p 2 λ_ _ d=>.ea 4 [d,g b 1] λe=>.load (some 4) e λf=>.op (.BI 1) [S aWb] λh=>.ca 218 [f,h] λj=>.AE j (.rr [I 16,g b 1]) (.Bt p 2 λ_ _ k=>.ea 4 [k,g b 1] λm=>.load (some 4) m λn=>.op (.BI 1) [S aWl] λo=>.ca 218 [n,o] λs=>.AE s (.rr [I 17,g b 1]) (.ib [g b 1,I 1] λu=>.rn [g b 0,u]))) (.rx 0 [g b 0,g b 1])) (lx 0 (λw=>.rr [I 16]) λw=>.rr [g w 0])
def Ä:DB cx 358 aIc:=λ_ _=>AH
def aId(p q:Aa):IT:=
 .loop 3 [S [],I 0,I 0] (λa=>.lt [p] λb=>.ik [g a 2,b] λc=>.AE c (.lt [p] λd=>.ie [g a 2,d] λe=>.AE e (.op (.HO 0 true true true) [p,g a 1,g a 2] λf=>.Bk 316 [f] λh=>.se [h,q] λj=>.AE j (.op (.HO 0 true true true) [p,g a 1,g a 2] λk=>.rr [k,g a 1,g a 2]) (.ia [g a 2,I 1] λm=>.ia [g a 2,I 1] λn=>.rn [g a 0,m,n])) (.op .Qd [p,g a 2] λo=>.ie [o,.int .u8 32] λs=>.AE s (.op (.HO 0 true true true) [p,g a 1,g a 2] λu=>.Bk 316 [u] λw=>.se [w,q] λy=>.AE y (.op (.HO 0 true true true) [p,g a 1,g a 2] λz=>.rr [z,g a 1,g a 2]) (.ia [g a 2,I 1] λa0=>.ia [g a 2,I 1] λa1=>.rn [g a 0,a0,a1])) (.ia [g a 2,I 1] λa2=>.rn [g a 0,g a 1,a2]))) (.rx 0 [g a 0,g a 1,g a 2])) (lx 0 (λa5=>.rr [q]) λa5=>.rr [g a5 0])
def Å:DB cx 359 aId:=λ_ _=>AH
def aDa(p:Aa):IT:=
 .cells 1 p λa=>.rr [.func (.func 413) [] [.Cq [g a 0]]]
def uJ:Ek cx 360 aDa:=λ_=>AH
def Æ(p q:Aa):IT:=
 .cells 1 p λa=>.cells 1 q λb=>.rr [.func (.func 414) [] [.Cq [g a 0],.Cq [g b 0]]]
def cH:DB cx 361 Æ:=λ_ _=>AH
def aDb(p q r:Aa):IT:=
 .ln [p] λa=>.mem (.jX 1) [p,q,r,a] λ_=>.ie [q,r] λb=>.AE b (.rr [p]) (.ln [p] λc=>.op (.HO 1 false false true) [p,q] λd=>.op (.HO 1 false true false) [p,r] λe=>.FN 1 8 d e λf=>.ln [f] λh=>.mem (.wR 1 true true) [f,h,c] λj=>.mem (.clear 1 [I 0]) [j] λ_=>.rr [f])
def uK:LP cx 363 aDb:=λ_ _ _=>AH
def aDc(p:Aa):IT:=
 .Fe p λa=>.ln [a] λb=>.loop 3 [I 0] (λc=>.il [g c 0,b] λd=>.AE d (.ea 1 [a,g c 0] λe=>.ld e λf=>.op (.conv .i32) [f] λh=>.Bk 417 [h] λj=>.AE j (.ib [f,.int .u8 65] λk=>.ia [k,.int .u8 97] λm=>.ea 1 [a,g c 0] λn=>.store 1 n m (.ia [g c 0,I 1] λo=>.rn [o])) (.ia [g c 0,I 1] λs=>.rn [s])) (.rx 0 [g c 0])) (lx 0 (λu=>.LK a λw=>.op .Ux [w] λy=>.rr [y]) λu=>.rr [S []])
def uL:Ek cx 366 aDc:=λ_=>AH
def aIe(p q:Aa):IT:=
 .ln [p] λa=>.loop 2 [I 0,I 0] (λb=>.il [g b 1,a] λc=>.AE c (.ea 1 [p,g b 1] λd=>.ld d λe=>.Es q [e] λf=>.AE f (.rr [g b 1,g b 1]) (.ia [g b 1,I 1] λh=>.rn [g b 0,h])) (.rx 0 [g b 0,g b 1])) (lx 0 (λj=>.rr [I (-1)]) λj=>.rr [g j 0])
def Ç:DB cx 367 aIe:=λ_ _=>AH
def aDd(p:Aa):IT:=
 .ca 410 [p] λa=>.rr [a]
def uM:Ek cx 368 aDd:=λ_=>AH
def aDe(p q:Aa):IT:=
 .op (.HO 4 false false true) [p,q] λa=>.op (.append 4 40) [.slnil,a] λb=>.ia [q,I 1] λc=>.op (.HO 4 false true false) [p,c] λd=>.op (.append 4 40) [b,d] λe=>.rr [e]
def uN:DB cx 369 aDe:=λ_ _=>AH
def aIf(p q:Aa):IT:=
 .ld q λa=>.Es a [p] λ_=>.rr [ff]
def È:DB cx 370 aIf:=λ_ _=>AH
def aIg(p:Aa):IT:=
 .lt [p] λa=>.ie [a,I 2] λb=>.AE b (.op .Qd [p,I 0] λc=>.ie [c,.int .u8 104] λd=>.AE d (.op .Qd [p,I 1] λe=>.ih [e,.int .u8 49] λf=>.AE f (.op .Qd [p,I 1] λh=>.ik [h,.int .u8 54] λj=>.rr [j]) (.rr [ff])) (.rr [ff])) (.rr [ff])
def É:Ek cx 371 aIg:=λ_=>AH
def aIh(p:Aa):IT:=
 .cells 12 p λa=>.ln [g a 8] λb=>.loop 2 [ff,I 0] (λc=>.il [g c 1,b] λd=>.AE d (.ea 3 [g a 8,g c 1] λe=>.load (some 3) e λf=>.cells 3 f λh=>.se [g h 1,S aXf] λj=>.AE j (.Bk 240 [g h 2,S [104,105,100,100,101,110]] λk=>.rr [k,g c 1]) (.ia [g c 1,I 1] λm=>.rn [g c 0,m])) (.rx 0 [g c 0,g c 1])) (lx 0 (λn=>.rr [ff]) λn=>.rr [g n 0])
def Ê:Ek cx 372 aIh:=λ_=>AH
def aIi(p q:Aa):IT:=
 .Bt p 0 λ_ _ a=>.fa a 2 λ_ b=>.op (.BI 1) [q] λc=>.ca 178 [b,I 1,c] λd=>.rr [d]
def Ë:DB cx 373 aIi:=λ_ _=>AH
def aIj(p q r:Aa):IT:=
 .Bt p 0 λ_ _ a=>.fa a 2 λ_ b=>.ca 179 [b,r] λ_=>.Bt p 0 λ_ _ c=>.fa c 2 λ_ d=>.op (.BI 1) [q] λe=>.ca 84 [d,e] λ_=>.rr [.tuple []]
def Ì:LP cx 374 aIj:=λ_ _ _=>AH
def aIk(p q:Aa):IT:=
 .cells 4 p λa=>.ie [g a 1,I 1] λb=>.AE b (.se [g a 2,q] λc=>.rr [c]) (.rr [ff])
def Í:DB cx 375 aIk:=λ_ _=>AH
def aIl(p:Aa):IT:=
 .Bt p 0 λ_ _ a=>.fa a 2 λ_ b=>.ca 184 [b,I 1] λc=>.cells 4 c λd=>.Bt p 0 λ_ _ e=>.fa e 2 λ_ f=>.ca 183 [f] λh=>.ih [h,I 2] λj=>.AE j (.ca 375 [a4 d,S aWZ] λk=>.rr [.tuple [g d 0,k]]) (.rr [.tuple [g d 0,ff]])
def Î:Ek cx 376 aIl:=λ_=>AH
def aIm(p q:Aa):IT:=
 .op (.BI 1) [q] λa=>.ca 236 [p,a] λb=>.iq [b,I 0] λc=>.AE c (.rr [b]) (.ca 238 [p,q] λ_=>.rr [I 0])
def Ï:DB cx 377 aIm:=λ_ _=>AH
def aIn(p q:Aa):IT:=
 .ca 188 [p,q] λa=>.il [a,I 0] λb=>.AE b (.rr [ff]) (.Bt p 0 λ_ _ c=>.ca 318 [c,a] λd=>.fa p 0 λ_ e=>.store 1 e d (.rr [tt]))
def Ð:DB cx 378 aIn:=λ_ _=>AH
def aIo(p q r:Aa):IT:=
 .ca 281 [p,q] λa=>.nt [a] λb=>.AE b (.rr [ff]) (.ca 281 [p,r] λc=>.nt [c] λd=>.AE d (.rr [ff]) (.loop 3 [r,ff] (λe=>.iq [g e 0,I 0] λf=>.AE f (.ie [g e 0,q] λh=>.AE h (.rr [g e 0,tt]) (.ca 418 [p,g e 0] λj=>.rn [j,g e 1])) (.rx 0 [g e 0,g e 1])) (lx 0 (λk=>.rr [ff]) λk=>.rr [g k 1])))
def Ñ:LP cx 379 aIo:=λ_ _ _=>AH
def aIp(p q:Aa):IT:=
 .loop 3 [.slnil,I 0] (λa=>.ln [p] λb=>.il [g a 1,b] λc=>.AE c (.ea 1 [p,g a 1] λd=>.ld d λe=>.iq [e,q] λf=>.AE f (.ea 1 [p,g a 1] λh=>.ld h λj=>.op (.BI 1) [j] λk=>.op (.append 1 8) [g a 0,k] λm=>.ia [g a 1,I 1] λn=>.rn [m,n]) (.ia [g a 1,I 1] λo=>.rn [g a 0,o])) (.rx 0 [g a 0,g a 1])) (lx 0 (λs=>.rr [g s 0]) λs=>.rr [.slnil])
def Ò:DB cx 380 aIp:=λ_ _=>AH
def aIq(p q:Aa):IT:=
 .cells 3 q λa=>.loop 2 [ff,I 0] (λb=>.ln [p] λc=>.il [g b 1,c] λd=>.AE d (.ea 3 [p,g b 1] λe=>.load (some 3) e λf=>.op (.geq false [.i,.s,.s]) [f,a3 a] λh=>.AE h (.rr [tt,g b 1]) (.ia [g b 1,I 1] λj=>.rn [g b 0,j])) (.rx 0 [g b 0,g b 1])) (lx 0 (λk=>.rr [ff]) λk=>.rr [g k 0])
def Ó:DB cx 382 aIq:=λ_ _=>AH
def aIr(p q:Aa):IT:=
 .il [q,I 0] λa=>.AE a (.op (.BF [I 0,I 0,S [],ff] []) [] λb=>.cells 4 b λc=>.rr [a4 c]) (.ln [p] λd=>.ih [q,d] λe=>.AE e (.op (.BF [I 0,I 0,S [],ff] []) [] λf=>.cells 4 f λh=>.rr [a4 h]) (.ea 4 [p,q] λj=>.load (some 4) j λk=>.cells 4 k λm=>.rr [a4 m]))
def Ô:DB cx 383 aIr:=λ_ _=>AH
def aIs(p q:Aa):IT:=
 .cells 13 p λa=>.cells 13 q λb=>.ie [g a 0,g b 0] λc=>.AE c (.ie [g a 4,g b 4] λd=>.AE d (.se [g a 5,g b 5] λe=>.AE e (.ca 420 [g a 6,g b 6] λf=>.AE f (.se [g a 7,g b 7] λh=>.AE h (.se [g a 8,g b 8] λj=>.AE j (.se [g a 9,g b 9] λk=>.AE k (.op (.beq false) [g a 10,g b 10] λm=>.rr [m]) (.rr [ff])) (.rr [ff])) (.rr [ff])) (.rr [ff])) (.rr [ff])) (.rr [ff])) (.rr [ff])
def Õ:DB cx 386 aIs:=λ_ _=>AH
def Ö(p:Aa):IT:=
 .op (.GC false .sl) [p,.slnil] λa=>.AE a (.rr [.slnil]) (.op (.BI 1) [] λb=>.GA 1 8 b p λc=>.rr [c])
def cI:Ek cx 387 Ö:=λ_=>AH
def aDf(p q:Aa):IT:=
 .ln [p] λa=>.loop 2 [I 0,I 0] (λb=>.il [g b 1,a] λc=>.AE c (.ea 1 [p,g b 1] λd=>.ld d λe=>.Es q [e] λf=>.AE f (.rr [g b 1,g b 1]) (.ia [g b 1,I 1] λh=>.rn [g b 0,h])) (.rx 0 [g b 0,g b 1])) (lx 0 (λj=>.rr [I (-1)]) λj=>.rr [g j 0])
def uO:DB cx 396 aDf:=λ_ _=>AH
def aDg(p q:Aa):IT:=
 .ln [p] λa=>.loop 2 [I 0,I 0] (λb=>.il [g b 1,a] λc=>.AE c (.ea 1 [p,g b 1] λd=>.ld d λe=>.se [q,e] λf=>.AE f (.rr [g b 1,g b 1]) (.ia [g b 1,I 1] λh=>.rn [g b 0,h])) (.rx 0 [g b 0,g b 1])) (lx 0 (λj=>.rr [I (-1)]) λj=>.rr [g j 0])
def uP:DB cx 397 aDg:=λ_ _=>AH
def aIt(p:Aa):IT:=
 .ih [p,.int .u8 65] λa=>.AE a (.ik [p,.int .u8 90] λb=>.rr [b]) (.rr [ff])
def Ø:Ek cx 398 aIt:=λ_=>AH
def aDh(p q:Aa):IT:=
 .cells 1 q λa=>.ca 191 [p,.func (.func 400) [] [.Cq [g a 0]]] λb=>.nt [b] λc=>.rr [c]
def uQ:DB cx 399 aDh:=λ_ _=>AH
def aDi(p q:Aa):IT:=
 .cells 3 p λa=>.ld q λb=>.ca 401 [b,a3 a] λc=>.nt [c] λd=>.rr [d]
def uR:DB cx 400 aDi:=λ_ _=>AH
def aDj(p q:Aa):IT:=
 .cells 3 q λa=>.ca 425 [p,a3 a] λb=>.ih [b,I 0] λc=>.rr [c]
def uS:DB cx 401 aDj:=λ_ _=>AH
def Ù(p q:Aa):IT:=
 .ca 54 [p,q] λa=>.nt [a] λb=>.AE b (.rr [I 0]) (.ca 153 [p,q] λc=>.fa c 0 λ_ d=>.fl d 1 λ_ e=>.rr [e])
def cJ:DB cx 402 Ù:=λ_ _=>AH
def mb(p:Aa):IT:=
 .cells 1 p λa=>.ie [g a 0,I 4] λb=>.AE b (.rr [.func (.func 426) [] []]) (.ie [g a 0,I 5] λc=>.AE c (.rr [.func (.func 427) [] []]) (.rr [.func (.func 428) [] [.Cq [g a 0]]]))
def Vy:Ek cx 403 mb:=λ_=>AH
def aDk(p q r:Aa):IT:=
 .cells 4 p λa=>.ld q λb=>.Es b [a4 a] λc=>.AE c (.rr [tt]) (.ld r λd=>.Es d [a4 a] λe=>.rr [e])
def uT:LP cx 404 aDk:=λ_ _ _=>AH
def aDl(p q r:Aa):IT:=
 .ln [p] λa=>.mem (.jX 3) [p,q,r,a] λ_=>.ie [q,r] λb=>.AE b (.rr [p]) (.ln [p] λc=>.op (.HO 3 false false true) [p,q] λd=>.op (.HO 3 false true false) [p,r] λe=>.FN 3 48 d e λf=>.ln [f] λh=>.mem (.wR 3 true true) [f,h,c] λj=>.mem (.clear 3 [I 0,S [],.slnil]) [j] λ_=>.rr [f])
def uU:LP cx 405 aDl:=λ_ _ _=>AH
def aDm(p q:Aa):IT:=
 .cells 4 p λa=>.ld q λb=>.ie [g a 0,b] λc=>.rr [c]
def uV:DB cx 406 aDm:=λ_ _=>AH
def Ú(p q r:Aa):IT:=
 .cells 4 r λa=>.ca 180 [p,q] λb=>.il [b,I 1] λc=>.AE c (.HE 0 p (.rr [ff])) (.Bt p 0 λ_ _ d=>.ca 429 [d] λe=>.fa p 0 λ_ f=>.store 1 f e (.Bt p 0 λ_ _ h=>.ea 4 [h,b] λj=>.store 4 j (a4 a) (.HE 0 p (.rr [tt]))))
def cK:LP cx 407 Ú:=λ_ _ _=>AH
def Û(p q r:Aa):IT:=
 .cells 3 r λa=>.ca 188 [p,q] λb=>.il [b,I 0] λc=>.AE c (.HE 0 p (.rr [ff])) (.Bt p 0 λ_ _ d=>.ca 181 [d] λe=>.fa p 0 λ_ f=>.store 1 f e (.Bt p 0 λ_ h j=>.ca 319 [a3 a] λk=>.ld h λm=>.same j m (.ea 3 [j,b] λn=>.store 3 n k (.HE 0 p (.rr [tt])))))
def cL:LP cx 408 Û:=λ_ _ _=>AH
def aDn(p q:Aa):IT:=
 .cells 3 p λa=>.fl q 0 λ_ b=>.ie [b,g a 0] λc=>.AE c (.fl q 1 λ_ d=>.se [d,g a 1] λe=>.rr [e]) (.rr [ff])
def uW:DB cx 409 aDn:=λ_ _=>AH
def aDo(p:Aa):IT:=
 .loop 5 [I 0,I 1,.int .u8 0,I 0] (λa=>.lt [p] λb=>.il [g a 3,b] λc=>.AE c (.op .Qd [p,g a 3] λd=>.op (.int .or) [g a 2,d] λe=>.op (.TG 256 1) [.Cq Hc,d] λf=>.ld f λh=>.op (.conv .i64) [h] λj=>.op (.un .xor) [j] λk=>.op (.int .and) [g a 1,k] λm=>.ia [g a 0,m] λn=>.ia [g a 3,I 1] λo=>.rn [n,j,e,o]) (.rx 0 [g a 0,g a 1,g a 2,g a 3])) (lx 0 (λs=>.ih [g s 2,.int .u8 128] λu=>.AE u (.ca 430 [p,.func (.func 431) [] []] λw=>.LK w λy=>.rr [y]) (.make 1 16 [S []] (g s 0) (g s 0) λz=>.loop 18 [I 0] (λa0=>.lt [p] λa1=>.il [g a0 0,a1] λa2=>.AE a2 (.op .Qd [p,g a0 0] λa5=>.op (.TG 256 1) [.Cq Hc,a5] λa7=>.ld a7 λa8=>.iq [a8,.int .u8 0] λb0=>.AE b0 (.ia [g a0 0,I 1] λb1=>.rn [b1]) (.rx 2 [g a0 0])) (.rx 2 [g a0 0])) (lx 2 (λb2=>.loop 21 [I 0,g b2 0,g b2 0] (λb3=>.lt [p] λb4=>.il [g b3 2,b4] λb5=>.AE b5 (.op .Qd [p,g b3 2] λb6=>.op (.TG 256 1) [.Cq Hc,b6] λb7=>.ld b7 λb8=>.ie [b8,.int .u8 0] λb9=>.AE b9 (.ia [g b3 2,I 1] λc1=>.rn [g b3 0,g b3 1,c1]) (.op (.HO 0 true true true) [p,g b3 1,g b3 2] λc2=>.ea 1 [z,g b3 0] λc3=>.store 1 c3 c2 (.ia [g b3 0,I 1] λc4=>.ia [g b3 2,I 1] λc5=>.loop 27 [c5] (λc6=>.lt [p] λc7=>.il [g c6 0,c7] λc8=>.AE c8 (.op .Qd [p,g c6 0] λc9=>.op (.TG 256 1) [.Cq Hc,c9] λd0=>.ld d0 λd1=>.iq [d1,.int .u8 0] λd2=>.AE d2 (.ia [g c6 0,I 1] λd3=>.rn [d3]) (.rx 6 [g c6 0])) (.rx 6 [g c6 0])) (λx d4=>match x with| .normal=>.fail| .exit i=>if i=6 then .rn [c4,g d4 0,g d4 0] else if i=5 then .rn [c4,g b3 1,g d4 0] else .ret (.exit i) [c4,g b3 1,g d4 0]| .ret=>.rr [c4,g b3 1,g d4 0])))) (.rx 4 [g b3 0,g b3 1,g b3 2])) (lx 4 (λd5=>.lt [p] λd6=>.il [g d5 1,d6] λd7=>.AE d7 (.op (.HO 0 true true false) [p,g d5 1] λd8=>.ea 1 [z,g d5 0] λd9=>.store 1 d9 d8 (.LK z λe0=>.rr [e0])) (.LK z λe1=>.rr [e1])) λd5=>.LK .slnil λe2=>.rr [e2])) λb2=>.LK .slnil λe3=>.rr [e3]))) λs=>.LK .slnil λe4=>.rr [e4])
def uX:Ek cx 410 aDo:=λ_=>AH
def aIu(p q:Aa):IT:=
 .ca 281 [p,q] λa=>.nt [a] λb=>.AE b (.rr [I 0]) (.Bt p 0 λ_ _ c=>.ea 13 [c,q] λd=>.fl d 1 λ_ e=>.rr [e])
def Ü:DB cx 411 aIu:=λ_ _=>AH
def aIv(p q:Aa):IT:=
 .cells 4 p λa=>.ie [g a 1,I 1] λb=>.ie [q,I 4] λc=>.AE c (.AE b (.Bk 139 [S aWt,g a 2] λd=>.rr [d]) (.rr [ff])) (.ie [q,I 5] λe=>.AE e (.nt [b] λf=>.AE f (.rr [tt]) (.Bk 139 [S aWo,g a 2] λh=>.nt [h] λj=>.rr [j])) (.AE b (.ie [q,I 2] λk=>.AE k (.Bk 139 [S aXi,g a 2] λm=>.AE m (.rr [tt]) (.AE b (.ie [q,I 3] λn=>.AE n (.se [g a 2,S aWk] λo=>.AE o (.rr [tt]) (.AE b (.Bk 139 [S aWa,g a 2] λs=>.rr [s]) (.Bk 220 [g a 1,g a 2] λu=>.rr [u]))) (.AE b (.Bk 139 [S aWa,g a 2] λw=>.rr [w]) (.Bk 220 [g a 1,g a 2] λy=>.rr [y]))) (.AE b (.Bk 139 [S aWa,g a 2] λz=>.rr [z]) (.Bk 220 [g a 1,g a 2] λa0=>.rr [a0])))) (.AE b (.ie [q,I 3] λa1=>.AE a1 (.se [g a 2,S aWk] λa2=>.AE a2 (.rr [tt]) (.AE b (.Bk 139 [S aWa,g a 2] λa5=>.rr [a5]) (.Bk 220 [g a 1,g a 2] λa7=>.rr [a7]))) (.AE b (.Bk 139 [S aWa,g a 2] λa8=>.rr [a8]) (.Bk 220 [g a 1,g a 2] λb0=>.rr [b0]))) (.AE b (.Bk 139 [S aWa,g a 2] λb1=>.rr [b1]) (.Bk 220 [g a 1,g a 2] λb2=>.rr [b2])))) (.AE b (.ie [q,I 3] λb3=>.AE b3 (.se [g a 2,S aWk] λb4=>.AE b4 (.rr [tt]) (.AE b (.Bk 139 [S aWa,g a 2] λb5=>.rr [b5]) (.Bk 220 [g a 1,g a 2] λb6=>.rr [b6]))) (.AE b (.Bk 139 [S aWa,g a 2] λb7=>.rr [b7]) (.Bk 220 [g a 1,g a 2] λb8=>.rr [b8]))) (.AE b (.Bk 139 [S aWa,g a 2] λb9=>.rr [b9]) (.Bk 220 [g a 1,g a 2] λc1=>.rr [c1])))))
def Ý:DB cx 412 aIv:=λ_ _=>AH
def aDp(p q:Aa):IT:=
 .ld q λa=>.ln [a] λb=>.loop 2 [ff,I 0] (λc=>.il [g c 1,b] λd=>.AE d (.ea 1 [a,g c 1] λe=>.ld e λf=>.Es f [p] λh=>.AE h (.rr [tt,g c 1]) (.ia [g c 1,I 1] λj=>.rn [g c 0,j])) (.rx 0 [g c 0,g c 1])) (lx 0 (λk=>.rr [ff]) λk=>.rr [g k 0])
def uY:DB cx 413 aDp:=λ_ _=>AH
def Þ(p q r:Aa):IT:=
 .ld q λa=>.ik [a,p] λb=>.AE b (.ld r λc=>.ik [p,c] λd=>.rr [d]) (.rr [ff])
def cM:LP cx 414 Þ:=λ_ _ _=>AH
def aDq(p:Aa):IT:=
 .ca 361 [.int .i32 65,.int .i32 90] λa=>.Es a [p] λb=>.rr [b]
def uZ:Ek cx 417 aDq:=λ_=>AH
def aIw(p q:Aa):IT:=
 .Bt p 0 λ_ _ a=>.ea 13 [a,q] λb=>.fl b 1 λ_ c=>.iq [c,I 0] λd=>.AE d (.Bt p 0 λ_ _ e=>.ea 13 [e,q] λf=>.fl f 1 λ_ h=>.rr [h]) (.Bt p 0 λ_ _ j=>.ea 13 [j,q] λk=>.fl k 12 λ_ m=>.rr [m])
def ß:DB cx 418 aIw:=λ_ _=>AH
def aIx(p q:Aa):IT:=
 .ln [p] λa=>.ln [q] λb=>.iq [a,b] λc=>.AE c (.rr [ff]) (.loop 4 [ff,I 0] (λd=>.ln [p] λe=>.il [g d 1,e] λf=>.AE f (.ea 3 [p,g d 1] λh=>.load (some 3) h λj=>.ea 3 [q,g d 1] λk=>.load (some 3) k λm=>.op (.geq true [.i,.s,.s]) [j,m] λn=>.AE n (.rr [ff,g d 1]) (.ia [g d 1,I 1] λo=>.rn [g d 0,o])) (.rx 0 [g d 0,g d 1])) (lx 0 (λs=>.rr [tt]) λs=>.rr [g s 0]))
def à:DB cx 420 aIx:=λ_ _=>AH
def aDr(p q:Aa):IT:=
 .cells 3 q λa=>.ln [p] λb=>.loop 2 [I 0,I 0] (λc=>.il [g c 1,b] λd=>.AE d (.ea 3 [p,g c 1] λe=>.load (some 3) e λf=>.op (.geq false [.i,.s,.s]) [a3 a,f] λh=>.AE h (.rr [g c 1,g c 1]) (.ia [g c 1,I 1] λj=>.rn [g c 0,j])) (.rx 0 [g c 0,g c 1])) (lx 0 (λk=>.rr [I (-1)]) λk=>.rr [g k 0])
def u9:DB cx 425 aDr:=λ_ _=>AH
def aDs(p:Aa):IT:=
 .cells 4 p λa=>.op (.BI 1) [S aWh,S aWl,S aWb] λb=>.ca 202 [a4 a,b] λc=>.rr [c]
def vA:Ek cx 426 aDs:=λ_=>AH
def aDt(p:Aa):IT:=
 .cells 4 p λa=>.op (.BI 1) [S aWE,S aWS] λb=>.ca 202 [a4 a,b] λc=>.nt [c] λd=>.rr [d]
def vB:Ek cx 427 aDt:=λ_=>AH
def aDu(p q:Aa):IT:=
 .cells 4 p λa=>.ie [g a 1,I 3] λb=>.AE b (.Bk 186 [g a 1,g a 2] λc=>.rr [c]) (.ie [g a 1,I 2] λd=>.AE d (.Bk 186 [g a 1,g a 2] λe=>.rr [e]) (.op (.BI 1) [S aXd,S aWs,S aWh,S aXa,S aXe,S aWl,S [116,100],S aWb,S [116,104]] λf=>.ca 202 [a4 a,f] λh=>.AE h (.rr [tt]) (.ld q λj=>.ie [j,I 2] λk=>.AE k (.op (.BI 1) [S [111,108],S [117,108]] λm=>.ca 202 [a4 a,m] λn=>.AE n (.rr [tt]) (.ld q λo=>.ie [o,I 3] λs=>.AE s (.op (.BI 1) [S aWk] λu=>.ca 202 [a4 a,u] λw=>.rr [w]) (.rr [ff]))) (.ld q λy=>.ie [y,I 3] λz=>.AE z (.op (.BI 1) [S aWk] λa0=>.ca 202 [a4 a,a0] λa1=>.rr [a1]) (.rr [ff])))))
def vC:DB cx 428 aDu:=λ_ _=>AH
def aDv(p:Aa):IT:=
 .op (.GC false .sl) [p,.slnil] λa=>.AE a (.rr [.slnil]) (.op (.BI 4) [] λb=>.HR 4 40 b p λc=>.rr [c])
def vD:Ek cx 429 aDv:=λ_=>AH
def aIy(p q:Aa):IT:=
 .make 2 16 [I 0,I 0] i0 (I 32) λ_=>.fail
def á:DB cx 430 aIy:=λ_ _=>AH
def vE(p:Aa):IT:=
 .Bt p 6 λ_ _ a=>.ln [a] λb=>.ig [b,I 0] λc=>.AE c (.Bt p 6 λ_ _ d=>.ib [b,I 1] λe=>.op (.HO 1 false false true) [d,e] λf=>.ca 200118 [f] λh=>.fa p 6 λ_ j=>.store 1 j h (.rr [.tuple []])) (.rr [.tuple []])
def nI:Ek cx 100125 vE:=λ_=>AH
def Vz(p:Aa):IT:=
 .op (.GC false .sl) [p,.slnil] λa=>.AE a (.rr [.slnil]) (.op (.BI 3) [] λb=>.HR 3 40 b p λc=>.rr [c])
def Rc:Ek cx 100147 Vz:=λ_=>AH
def vF(p:Aa):IT:=
 .op (.GC false .sl) [p,.slnil] λa=>.AE a (.rr [.slnil]) (.op (.Gb 1) [] λb=>.HR 1 8 b p λc=>.rr [c])
def nJ:Ek cx 200118 vF:=λ_=>AH
end Go.Am
