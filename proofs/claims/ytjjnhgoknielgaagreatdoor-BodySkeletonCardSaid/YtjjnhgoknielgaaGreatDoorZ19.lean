/- Lemmas -/
import Derived.Test.YtjjnhgoknielgaaGreatDoorZ9
import Derived.Test.YtjjnhgoknielgaaGreatDoorZ17
set_option linter.all false
namespace Go.Am
open Go
def t3(p:Aa):IT:=
 .ca 5 [p,I 60] λa=>.nt [a] λb=>.A3 b (.BH 6 [] λc=>.rr [c]) (.loop 4 [ff,I 0] (λd=>.ln [p] λe=>.il [g d 1,e] λf=>.A3 f (.ea 12 [p,g d 1] λh=>.fl h 0 λ_ j=>.ie [j,I 2] λk=>.A3 k (.ea 12 [p,g d 1] λm=>.fl m 1 λ_ n=>.se [n,S aWA] λo=>.A3 o (.BH 6 [] λs=>.rr [s,g d 1]) (.ea 12 [p,g d 1] λu=>.fl u 0 λ_ w=>.ie [w,I 6] λy=>.A3 y (.BH 6 [] λz=>.rr [z,g d 1]) (.ia [g d 1,I 1] λa0=>.rn [g d 0,a0]))) (.ea 12 [p,g d 1] λa1=>.fl a1 0 λ_ a2=>.ie [a2,I 6] λa5=>.A3 a5 (.BH 6 [] λa7=>.rr [a7,g d 1]) (.ia [g d 1,I 1] λa8=>.rn [g d 0,a8]))) (.rx 0 [g d 0,g d 1])) (lx 0 (λb0=>.op (.append 12 136) [.slnil,p] λb1=>.op (.C7 [I 0,S [],ff,S [],ff,S [],ff,ff,.slnil,ff,S [],.int .i32 0] [(0,1)]) [I 6] λb2=>.op (.CC 12) [b2] λb3=>.op (.append 12 136) [b1,b3] λb4=>.ca 7 [b4] λb5=>.op (.ext 0) [b5] λb6=>.op (.ext 1) [b5] λb7=>.op (.Wx false) [b6,.ptr none] λb8=>.A3 b8 (.rr [ff]) (.nt [b7] λb9=>.A3 b9 (.BH 6 [] λc0=>.rr [c0]) (.Cj b6 0 λ_ _ c1=>.Cj b6 1 λ_ _ c2=>.ca 8 [c1,c2] λc4=>.op (.ext 0) [c4] λc5=>.op (.ext 1) [c4] λc6=>.ln [c5] λc7=>.iq [c7,I 1] λc8=>.A3 c8 (.rr [ff]) (.ea 1 [c5,I 0] λc9=>.ld c9 λd0=>.op (.str .neq) [d0,S aWu] λd1=>.A3 d1 (.rr [ff]) (.Cj b6 0 λ_ _ d2=>.ea 1 [c6,I 0] λd3=>.ld d3 λd4=>.ca 8 [d2,d4] λd5=>.op (.ext 0) [d5] λd6=>.op (.ext 1) [d5] λ_=>.ln [d6] λd7=>.ie [d7,I 2] λd8=>.A3 d8 (.ea 1 [d6,I 0] λd9=>.ld d9 λe0=>.se [e0,S aWy] λe1=>.A3 e1 (.ea 1 [d6,I 1] λe2=>.ld e2 λe3=>.se [e3,S aWz] λe4=>.A3 e4 (.Cj b6 19 λ_ _ e5=>.A3 e5 (.BH 6 [] λe6=>.rr [e6]) (.rr [ff])) (.rr [ff])) (.rr [ff])) (.rr [ff])))))) λb0=>.rr [g b0 0]))
def aIN:GM cx 3 t3:=λ_=>AP
def t5(p q:Aa):IT:=
 .loop 2 [ff,I 0] (λa=>.ln [p] λb=>.il [g a 1,b] λc=>.A3 c (.ik [g a 1,q] λd=>.A3 d (.ea 12 [p,g a 1] λe=>.load (some 12) e λf=>.ca 15 [f] λh=>.nt [h] λj=>.A3 j (.rr [ff,g a 1]) (.ia [g a 1,I 1] λk=>.rn [g a 0,k])) (.rx 0 [g a 0,g a 1])) (.rx 0 [g a 0,g a 1])) (lx 0 (λm=>.ln [p] λn=>.ik [n,q] λo=>.rr [o]) λm=>.rr [g m 0])
def aIO:F7 cx 5 t5:=λ_ _=>AP
def t7(p:Aa):IT:=
 .ca 19 [] λa=>.op (.Wx false) [a,.ptr none] λb=>.A3 b (.rr [.tuple [.ptr none,ff]]) (.loop 5 [.ptr none,ff,I 0] (λc=>.ln [p] λd=>.il [g c 2,d] λe=>.A3 e (.ea 12 [p,g c 2] λf=>.load (some 12) f λh=>.ca 20 [a,h] λj=>.nt [j] λk=>.A3 k (.rr [.ptr none,ff,g c 2]) (.Cj a 4 λ_ _ m=>.BH 21 [m] λn=>.nt [n] λo=>.A3 o (.rr [a,ff,g c 2]) (.ia [g c 2,I 1] λs=>.rn [g c 0,g c 1,s]))) (.rx 0 [g c 0,g c 1,g c 2])) (lx 0 (λu=>.rr [.tuple [a,tt]]) λu=>.rr [.tuple [g u 0,g u 1]]))
def aB9:GM cx 7 t7:=λ_=>AP
def t8(p q:Aa):IT:=
 .ca 12 [p,q] λa=>.loop 5 [.slnil,.slnil,I 0] (λb=>.ln [a] λc=>.il [g b 2,c] λd=>.A3 d (.ea 1 [a,g b 2] λe=>.ld e λf=>.ca 13 [p,f] λh=>.op (.ext 0) [h] λj=>.op (.ext 1) [h] λk=>.cells 13 j λm=>.ie [k,I 0] λn=>.A3 n (.ie [g m 0,I 4] λo=>.A3 o (.op (.CC 1) [g m 5] λs=>.op (.append 1 16) [g b 0,s] λu=>.ea 1 [a,g b 2] λw=>.ld w λy=>.op (.CC 1) [y] λz=>.op (.append 1 8) [g b 1,z] λa0=>.ia [g b 2,I 1] λa1=>.rn [u,a0,a1]) (.ia [g b 2,I 1] λa2=>.rn [g b 0,g b 1,a2])) (.ia [g b 2,I 1] λa5=>.rn [g b 0,g b 1,a5])) (.rx 0 [g b 0,g b 1,g b 2])) (lx 0 (λa7=>.rr [.tuple [g a7 0,g a7 1]]) λa7=>.rr [.tuple [.slnil,.slnil]])
def aIP:F7 cx 8 t8:=λ_ _=>AP
def t9(p:Aa):IT:=
 .op (.C7 [I 0,S [],ff,S [],ff,S [],ff,ff,.slnil,ff,S [],.int .i32 0] [(0,1),(11,1)]) [I 5,p] λa=>.cells 12 a λb=>.rr [GA b]
def aIQ:GM cx 9 t9:=λ_=>AP
def t12(p q:Aa):IT:=
 .ca 22 [p,q] λa=>.nt [a] λb=>.A3 b (.rr [.slnil]) (.ca 24 [p,q] λc=>.fa c 0 λ_ d=>.fl d 2 λ_ e=>.ca 23 [e] λf=>.rr [f])
def tV:F7 cx 12 t12:=λ_ _=>AP
def t13(p q:Aa):IT:=
 .op (.CC 1) [q] λa=>.ca 25 [p,a] λb=>.iq [b,I 0] λc=>.A3 c (.op (.C7 [I 0,I 0,.slnil,I 0,I 0,S [],.slnil,S [],S [],S [],ff,I 0,I 0] []) [] λd=>.cells 13 d λe=>.rr [.tuple [a13 e,b]]) (.ca 24 [p,q] λf=>.ca 26 [f] λh=>.cells 13 h λj=>.rr [.tuple [a13 j,I 0]])
def tW:F7 cx 13 t13:=λ_ _=>AP
def t15(p:Aa):IT:=
 .cells 12 p λa=>.lt [g a 1] λb=>.ik [b,I 60] λc=>.A3 c (.lt [g a 3] λd=>.ik [d,I 100] λe=>.A3 e (.lt [g a 5] λf=>.ik [f,I 100] λh=>.A3 h (.lt [g a 10] λj=>.ik [j,I 200] λk=>.A3 k (.ca 28 [g a 8] λm=>.rr [m]) (.rr [ff])) (.rr [ff])) (.rr [ff])) (.rr [ff])
def aDX:GM cx 15 t15:=λ_=>AP
def t16(p q:Aa):IT:=
 .ca 7 [p] λa=>.op (.ext 0) [a] λb=>.op (.ext 1) [a] λ_=>.op (.Wx false) [b,.ptr none] λc=>.A3 c (.rr [S []]) (.Cj b 0 λ_ _ d=>.ca 29 [d,q] λe=>.rr [e])
def aDY:F7 cx 16 t16:=λ_ _=>AP
def t17(p:Aa):IT:=
 .op (.C7 [I 0,S [],ff,S [],ff,S [],ff,ff,.slnil,ff,S [],.int .i32 0] [(0,1),(1,1)]) [I 2,p] λa=>.cells 12 a λb=>.rr [GA b]
def aDZ:GM cx 17 t17:=λ_=>AP
def t18(p:Aa):IT:=
 .op (.C7 [I 0,S [],ff,S [],ff,S [],ff,ff,.slnil,ff,S [],.int .i32 0] [(0,1),(1,1)]) [I 3,p] λa=>.cells 12 a λb=>.rr [GA b]
def aD0:GM cx 18 t18:=λ_=>AP
def t19:IT:=
 .ca 30 [] λa=>.ca 32 [a,ff] λb=>.ca 31 [a,b] λc=>.rr [c]
def D_:Cd cx 19 []=t19:=AP
def t20(p q:Aa):IT:=
 .cells 12 q λa=>.Cj p 6 λ_ _ b=>.ln [b] λc=>.ia [I 9,c] λd=>.loop 3 [ff,I 0] (λe=>.il [g e 1,d] λf=>.A3 f (.Cj p 4 λ_ _ h=>.BH 21 [h] λj=>.nt [j] λk=>.A3 k (.rr [tt,g e 1]) (.ca 34 [GA a] λm=>.ca 33 [p,m] λn=>.nt [n] λo=>.A3 o (.rr [tt,g e 1]) (.ia [g e 1,I 1] λs=>.rn [g e 0,s]))) (.rx 0 [g e 0,g e 1])) (lx 0 (λu=>.Cj p 4 λ_ _ w=>.BH 21 [w] λy=>.nt [y] λz=>.rr [z]) λu=>.rr [g u 0])
def E_:F7 cx 20 t20:=λ_ _=>AP
def t21(p:Aa):IT:=
 .ih [p,I 1] λa=>.A3 a (.ik [p,I 8] λb=>.A3 b (.rr [tt]) (.ie [p,I 18] λc=>.rr [c])) (.ie [p,I 18] λd=>.rr [d])
def F_:GM cx 21 t21:=λ_=>AP
def t22(p q:Aa):IT:=
 .op (.Wx true) [p,.ptr none] λa=>.A3 a (.ih [q,I 1] λb=>.A3 b (.Cj p 0 λ_ _ c=>.ln [c] λd=>.ik [q,d] λe=>.rr [e]) (.rr [ff])) (.rr [ff])
def G_:F7 cx 22 t22:=λ_ _=>AP
def t23(p:Aa):IT:=
 .op (.Gf false .sl) [p,.slnil] λa=>.A3 a (.rr [.slnil]) (.op (.CC 1) [] λb=>.GI 1 8 b p λc=>.rr [c])
def tX:GM cx 23 t23:=λ_=>AP
def t24(p q:Aa):IT:=
 .Cj p 0 λ_ _ a=>.ib [q,I 1] λb=>.ea 13 [a,b] λc=>.rr [c]
def tY:F7 cx 24 t24:=λ_ _=>AP
def t25(p q:Aa):IT:=
 .op (.Wx false) [p,.ptr none] λa=>.A3 a (.rr [I 1]) (.ln [q] λb=>.loop 4 [I 0,I 0] (λc=>.il [g c 1,b] λd=>.A3 d (.ea 1 [q,g c 1] λe=>.ld e λf=>.ca 22 [p,f] λh=>.nt [h] λj=>.A3 j (.rr [I 3,g c 1]) (.ia [g c 1,I 1] λk=>.rn [g c 0,k])) (.rx 0 [g c 0,g c 1])) (lx 0 (λm=>.rr [I 0]) λm=>.rr [g m 0]))
def H_:F7 cx 25 t25:=λ_ _=>AP
def t26(p:Aa):IT:=
 .fa p 0 λ_ a=>.load (some 13) a λb=>.cells 13 b λc=>.fa p 0 λ_ d=>.fl d 2 λ_ e=>.fa p 0 λ_ f=>.fl f 6 λh j=>.ca 23 [e] λk=>.ld h λm=>.same j m (.ca 100035 [j] λn=>.cells 1 k λo=>.cells 1 n λs=>.cells 13 (.agg [g c 0,g c 1,g o 0,g c 3,g c 4,g c 5,g s 0,g c 7,g c 8,g c 9,g c 10,g c 11,g c 12]) λu=>.rr [a13 u])
def I_:GM cx 26 t26:=λ_=>AP
def t28(p:Aa):IT:=
 .loop 2 [ff,I 0] (λa=>.ln [p] λb=>.il [g a 1,b] λc=>.A3 c (.ik [g a 1,I 20] λd=>.A3 d (.ea 3 [p,g a 1] λe=>.fl e 1 λ_ f=>.lt [f] λh=>.ig [h,I 400] λj=>.A3 j (.rr [ff,g a 1]) (.ea 3 [p,g a 1] λk=>.fl k 2 λ_ m=>.lt [m] λn=>.ig [n,I 400] λo=>.A3 o (.rr [ff,g a 1]) (.ia [g a 1,I 1] λs=>.rn [g a 0,s]))) (.rx 0 [g a 0,g a 1])) (.rx 0 [g a 0,g a 1])) (lx 0 (λu=>.ln [p] λw=>.ik [w,I 20] λy=>.rr [y]) λu=>.rr [g u 0])
def aD1:GM cx 28 t28:=λ_=>AP
def t30:IT:=
 .op (.C7 [.slnil,.map none] []) [] λa=>.alloc 2 a λb=>.rr [b]
def J_:Cd cx 30 []=t30:=AP
def t31(p q:Aa):IT:=
 .ca 13 [p,q] λa=>.op (.ext 0) [a] λb=>.op (.ext 1) [a] λc=>.cells 13 b λd=>.iq [c,I 0] λe=>.A3 e (.rr [.ptr none]) (.iq [g d 0,I 1] λf=>.A3 f (.rr [.ptr none]) (.op (.C7 [.ptr none,I 0,.slnil,.slnil,I 0,I 0,.slnil,I 0,I 0,ff,I 0,I 0,S [],ff,ff,ff,S [],ff,I 0,ff] [(0,1),(1,1),(4,1),(14,1)]) [p,q,I 1,tt] λh=>.alloc 20 h λj=>.rr [j]))
def K_:F7 cx 31 t31:=λ_ _=>AP
def t32(p q:Aa):IT:=
 .op (.Wx false) [p,.ptr none] λa=>.A3 a (.rr [I 0]) (.op (.C7 [I 0,I 0,.slnil,I 0,I 0,S [],.slnil,S [],S [],S [],ff,I 0,I 0] [(0,1),(10,1)]) [I 1,q] λb=>.ca 38 [p,b] λc=>.ca 24 [p,c] λd=>.fa d 0 λ_ e=>.op (.Gr 3) [e] λf=>.store 1 f c (.rr [c]))
def tZ:F7 cx 32 t32:=λ_ _=>AP
def t33(p q:Aa):IT:=
 .cells 12 q λa=>.ca 39 [p,GA a] λb=>.nt [b] λc=>.A3 c (.rr [ff]) (.Cj p 4 λ_ d e=>.ca 40 [] λf=>.ld d λh=>.same e h (.mem (.lf .nilFunc true) [f,e] λj=>.op (.ext 0) [j] λk=>.op (.ext 1) [j] λm=>.A3 m (.EG k [p,GA a] λn=>.rr [n]) (.rr [ff])))
def gP:F7 cx 33 t33:=λ_ _=>AP
def t34(p:Aa):IT:=
 .cells 12 p λa=>.op (.append 3 40) [.slnil,g a 8] λb=>.cells 1 b λc=>.cells 12 (.agg [g a 0,g a 1,g a 2,g a 3,g a 4,g a 5,g a 6,g a 7,g c 0,g a 9,g a 10,g a 11]) λd=>.rr [GA d]
def L_:GM cx 34 t34:=λ_=>AP
def t35(p:Aa):IT:=
 .op (.Gf false .sl) [p,.slnil] λa=>.A3 a (.rr [.slnil]) (.op (.CC 3) [] λb=>.GI 3 40 b p λc=>.rr [c])
def uA:GM cx 35 t35:=λ_=>AP
def t38(p q:Aa):IT:=
 .cells 13 q λa=>.Cj p 0 λ_ _ b=>.op (.C7 [I 0,I 0,.slnil,I 0,I 0,S [],.slnil,S [],S [],S [],ff,I 0,I 0] [(0,13)]) [a13 a] λc=>.op (.CC 13) [c] λd=>.GL 13 168 b d λe=>.fa p 0 λ_ f=>.store 1 f e (.Cj p 0 λ_ _ h=>.ln [h] λj=>.rr [j])
def uB:F7 cx 38 t38:=λ_ _=>AP
def t39(p q:Aa):IT:=
 .cells 12 q λa=>.op (.Wx true) [p,.ptr none] λb=>.A3 b (.Cj p 0 λ_ _ c=>.op (.Wx true) [c,.ptr none] λd=>.A3 d (.ih [g a 0,I 1] λe=>.A3 e (.ik [g a 0,I 6] λf=>.rr [f]) (.rr [ff])) (.rr [ff])) (.rr [ff])
def M_:F7 cx 39 t39:=λ_ _=>AP
def t40:IT:=
 .Og λa=>.mem .Uo [a,I 1,.func (.func 45) [] []] λ_=>.mem .Uo [a,I 2,.func (.func 46) [] []] λ_=>.mem .Uo [a,I 3,.func (.func 47) [] []] λ_=>.mem .Uo [a,I 4,.func (.func 48) [] []] λ_=>.mem .Uo [a,I 5,.func (.func 49) [] []] λ_=>.mem .Uo [a,I 6,.func (.func 50) [] []] λ_=>.mem .Uo [a,I 7,.func (.func 51) [] []] λ_=>.mem .Uo [a,I 8,.func (.func 52) [] []] λ_=>.mem .Uo [a,I 18,.func (.func 53) [] []] λ_=>.rr [a]
def N_:Cd cx 40 []=t40:=AP
def t45(p q:Aa):IT:=
 .cells 12 q λa=>.ca 39 [p,GA a] λb=>.nt [b] λc=>.A3 c (.rr [ff]) (.ca 61 [GA a] λd=>.A3 d (.rr [ff]) (.ie [g a 0,I 4] λe=>.A3 e (.Cj p 1 λ_ _ f=>.ca 62 [p,g a 10,f] λ_=>.rr [ff]) (.iq [g a 0,I 1] λh=>.A3 h (.Cj p 0 λ_ _ j=>.Cj p 1 λ_ _ k=>.ca 63 [j,k,tt] λ_=>.ca 64 [p,I 2] λm=>.rr [m]) (.Cj p 0 λ_ _ n=>.Cj p 1 λ_ _ o=>.ca 65 [n,o,g a 1,g a 3,g a 5] λs=>.op (.ext 0) [s] λu=>.op (.ext 1) [s] λw=>.ie [w,I 0] λy=>.A3 y (.Cj p 0 λ_ _ z=>.Cj p 1 λ_ _ a0=>.ca 66 [z,a0,u,I 0] λ_=>.ca 67 [GA a] λa1=>.A3 a1 (.Cj p 0 λ_ _ a2=>.Cj p 1 λ_ _ a5=>.ca 63 [a2,a5,tt] λ_=>.fa p 4 λ_ a7=>.store 1 a7 (I 2) (.rr [ff])) (.fa p 4 λ_ a8=>.store 1 a8 (I 2) (.rr [ff]))) (.ca 67 [GA a] λb0=>.A3 b0 (.Cj p 0 λ_ _ b1=>.Cj p 1 λ_ _ b2=>.ca 63 [b1,b2,tt] λ_=>.fa p 4 λ_ b3=>.store 1 b3 (I 2) (.rr [ff])) (.fa p 4 λ_ b4=>.store 1 b4 (I 2) (.rr [ff])))))))
def Sy:F7 cx 45 t45:=λ_ _=>AP
def t46(p q:Aa):IT:=
 .cells 12 q λa=>.ca 39 [p,GA a] λb=>.nt [b] λc=>.A3 c (.rr [ff]) (.ie [g a 0,I 1] λd=>.A3 d (.rr [ff]) (.ca 61 [GA a] λe=>.A3 e (.rr [ff]) (.ca 68 [GA a,S aXg] λf=>.A3 f (.rr [ff]) (.ie [g a 0,I 4] λh=>.A3 h (.Cj p 1 λ_ _ j=>.ca 62 [p,g a 10,j] λ_=>.rr [ff]) (.ca 69 [GA a,S aWu] λk=>.A3 k (.ca 70 [p,GA a] λ_=>.fa p 4 λ_ m=>.store 1 m (I 3) (.rr [ff])) (.ca 71 [S aWu] λn=>.ca 70 [p,n] λ_=>.ca 64 [p,I 3] λo=>.rr [o]))))))
def QP:F7 cx 46 t46:=λ_ _=>AP
def Ļ(p q:Aa):IT:=
 .cells 12 q λa=>.ca 39 [p,GA a] λb=>.nt [b] λc=>.A3 c (.rr [ff]) (.ie [g a 0,I 1] λd=>.A3 d (.rr [ff]) (.ca 61 [GA a] λe=>.A3 e (.rr [ff]) (.ca 68 [GA a,S aXg] λf=>.A3 f (.rr [ff]) (.ie [g a 0,I 4] λh=>.A3 h (.ca 62 [p,g a 10,I 0] λ_=>.rr [ff]) (.ca 69 [GA a,S aWu] λj=>.A3 j (.ca 51 [p,GA a] λk=>.rr [k]) (.ca 69 [GA a,S aWy] λm=>.A3 m (.ca 70 [p,GA a] λn=>.fa p 7 λ_ o=>.store 1 o n (.fa p 4 λ_ s=>.store 1 s (I 4) (.rr [ff]))) (.ca 71 [S aWy] λu=>.ca 70 [p,u] λw=>.fa p 7 λ_ y=>.store 1 y w (.ca 64 [p,I 4] λz=>.rr [z]))))))))
def PD:F7 cx 47 Ļ:=λ_ _=>AP
def lI(p q:Aa):IT:=
 .cells 12 q λa=>.ca 39 [p,GA a] λb=>.nt [b] λc=>.A3 c (.rr [ff]) (.ie [g a 0,I 1] λd=>.A3 d (.rr [ff]) (.ca 69 [GA a,S aWy] λe=>.A3 e (.rr [ff]) (.ca 68 [GA a,S aXc] λf=>.A3 f (.rr [ff]) (.ca 61 [GA a] λh=>.A3 h (.ca 72 [p,g a 11] λ_=>.rr [ff]) (.ie [g a 0,I 4] λj=>.A3 j (.ca 62 [p,g a 10,I 0] λ_=>.rr [ff]) (.ca 69 [GA a,S aWu] λk=>.A3 k (.ca 51 [p,GA a] λm=>.rr [m]) (.ca 69 [GA a,S aW0] λn=>.A3 n (.ca 73 [p,GA a] λ_=>.rr [ff]) (.ca 69 [GA a,S aWO] λo=>.A3 o (.ca 74 [p,GA a,I 2] λ_=>.rr [ff]) (.ca 69 [GA a,S aXG] λs=>.A3 s (.ca 74 [p,GA a,I 3] λ_=>.rr [ff]) (.ca 69 [GA a,S aW7] λu=>.A3 u (.ca 74 [p,GA a,I 4] λ_=>.rr [ff]) (.ca 69 [GA a,S aWF] λw=>.A3 w (.ca 70 [p,GA a] λ_=>.fa p 4 λ_ y=>.store 1 y (I 5) (.rr [ff])) (.ca 75 [GA a,S aWy] λz=>.A3 z (.fa p 2 λ_ a0=>.ca 76 [a0] λ_=>.fa p 4 λ_ a1=>.store 1 a1 (I 6) (.rr [ff])) (.ca 69 [GA a,S aWw] λa2=>.A3 a2 (.ca 70 [p,GA a] λ_=>.fa p 3 λ_ a5=>.ca 77 [a5] λ_=>.fa p 14 λ_ a7=>.store 1 a7 ff (.fa p 4 λ_ a8=>.store 1 a8 (I 18) (.Cj p 6 λ_ _ b0=>.ca 78 [b0] λb1=>.op (.CC 1) [I 18] λb2=>.op (.append 1 8) [b1,b2] λb3=>.fa p 6 λ_ b4=>.store 1 b4 b3 (.rr [ff])))) (.ca 75 [GA a,S aWw] λb5=>.A3 b5 (.ca 79 [p] λ_=>.rr [ff]) (.fa p 2 λ_ b6=>.ca 76 [b6] λ_=>.ca 64 [p,I 6] λb7=>.rr [b7])))))))))))))))
def I7:F7 cx 48 lI:=λ_ _=>AP
def uy(p q:Aa):IT:=
 .cells 12 q λa=>.ca 39 [p,GA a] λb=>.nt [b] λc=>.A3 c (.rr [ff]) (.ie [g a 0,I 1] λd=>.A3 d (.rr [ff]) (.ca 69 [GA a,S aXK] λe=>.A3 e (.rr [ff]) (.ca 68 [GA a,S aXU] λf=>.A3 f (.rr [ff]) (.ca 69 [GA a,S aWu] λh=>.A3 h (.ca 51 [p,GA a] λj=>.rr [j]) (.ca 75 [GA a,S aWF] λk=>.A3 k (.fa p 2 λ_ m=>.ca 76 [m] λ_=>.fa p 4 λ_ n=>.store 1 n (I 4) (.rr [ff])) (.ca 61 [GA a] λo=>.A3 o (.ca 48 [p,GA a] λs=>.rr [s]) (.ie [g a 0,I 4] λu=>.A3 u (.ca 48 [p,GA a] λw=>.rr [w]) (.ca 69 [GA a,S aWP] λy=>.A3 y (.ca 48 [p,GA a] λz=>.rr [z]) (.fa p 2 λ_ a0=>.ca 76 [a0] λ_=>.ca 64 [p,I 4] λa1=>.rr [a1])))))))))
def Nh:F7 cx 49 uy:=λ_ _=>AP
def yP(p q:Aa):IT:=
 .cells 12 q λa=>.ca 39 [p,GA a] λb=>.nt [b] λc=>.A3 c (.rr [ff]) (.ie [g a 0,I 1] λd=>.A3 d (.rr [ff]) (.ca 69 [GA a,S aWy] λe=>.A3 e (.rr [ff]) (.ca 68 [GA a,S aXo] λf=>.A3 f (.rr [ff]) (.ca 61 [GA a] λh=>.A3 h (.ca 72 [p,g a 11] λ_=>.rr [ff]) (.ie [g a 0,I 4] λj=>.A3 j (.ca 62 [p,g a 10,I 0] λ_=>.rr [ff]) (.ca 69 [GA a,S aWu] λk=>.A3 k (.ca 51 [p,GA a] λm=>.rr [m]) (.ca 69 [GA a,S aWz] λn=>.A3 n (.ca 70 [p,GA a] λ_=>.fa p 14 λ_ o=>.store 1 o ff (.fa p 4 λ_ s=>.store 1 s (I 7) (.rr [ff]))) (.ca 69 [GA a,S aWA] λu=>.A3 u (.ca 70 [p,GA a] λ_=>.fa p 4 λ_ w=>.store 1 w (I 20) (.rr [ff])) (.ca 69 [GA a,S aWt] λy=>.A3 y (.ca 80 [p,GA a,.func (.func 48) [] []] λz=>.rr [z]) (.ca 75 [GA a,S aWw] λa0=>.A3 a0 (.ca 48 [p,GA a] λa1=>.rr [a1]) (.ca 71 [S aWz] λa2=>.ca 70 [p,a2] λ_=>.ca 64 [p,I 7] λa5=>.rr [a5])))))))))))
def Lw:F7 cx 50 yP:=λ_ _=>AP
def t51(p q:Aa):IT:=
 .cells 12 q λa=>.ca 39 [p,GA a] λb=>.nt [b] λc=>.A3 c (.rr [ff]) (.op (.C7 [.ptr none,I 0,S [],ff,S [],ff,S [],ff,ff,.slnil,ff,S [],.int .i32 0] [(0,1),(1,12)]) [p,GA a] λd=>.alloc 13 d λe=>.ie [g a 0,I 5] λf=>.A3 f (.ca 81 [e] λ_=>.rr [ff]) (.ie [g a 0,I 4] λh=>.A3 h (.ca 62 [p,g a 10,I 0] λ_=>.rr [ff]) (.ie [g a 0,I 6] λj=>.A3 j (.Cj p 6 λ_ _ k=>.ln [k] λm=>.ig [m,I 0] λn=>.A3 n (.ca 53 [p,GA a] λo=>.rr [o]) (.ca 82 [p] λ_=>.rr [ff])) (.ie [g a 0,I 2] λs=>.A3 s (.ca 83 [] λu=>.MY .nilFunc false u (g a 1) λw=>.op (.Gf true .fn) [w,.nilFunc] λy=>.A3 y (.EG w [e] λz=>.rr [z]) (.ca 84 [p] λ_=>.ca 70 [p,GA a] λ_=>.rr [ff])) (.ie [g a 0,I 3] λa0=>.A3 a0 (.ca 85 [] λa1=>.MY .nilFunc false a1 (g a 1) λa2=>.op (.Gf true .fn) [a2,.nilFunc] λa5=>.A3 a5 (.EG a2 [e] λa7=>.rr [a7]) (.ca 86 [p,g a 1] λ_=>.rr [ff])) (.rr [ff]))))))
def Lx:F7 cx 51 t51:=λ_ _=>AP
def t52(p q:Aa):IT:=
 .cells 12 q λa=>.ca 39 [p,GA a] λb=>.nt [b] λc=>.A3 c (.rr [ff]) (.ie [g a 0,I 5] λd=>.A3 d (.ca 72 [p,g a 11] λ_=>.rr [ff]) (.ie [g a 0,I 6] λe=>.A3 e (.fa p 2 λ_ f=>.ca 76 [f] λ_=>.Cj p 5 λ_ _ h=>.ca 64 [p,h] λj=>.rr [j]) (.ie [g a 0,I 3] λk=>.A3 k (.fa p 2 λ_ m=>.ca 76 [m] λ_=>.Cj p 5 λ_ _ n=>.fa p 4 λ_ o=>.store 1 o n (.rr [ff])) (.rr [ff]))))
def UT:F7 cx 52 t52:=λ_ _=>AP
def t53(p q:Aa):IT:=
 .cells 12 q λa=>.ca 39 [p,GA a] λb=>.nt [b] λc=>.A3 c (.rr [ff]) (.ie [g a 0,I 5] λd=>.A3 d (.ca 51 [p,GA a] λe=>.rr [e]) (.ie [g a 0,I 4] λf=>.A3 f (.ca 51 [p,GA a] λh=>.rr [h]) (.ie [g a 0,I 1] λj=>.A3 j (.ca 51 [p,GA a] λk=>.rr [k]) (.ca 69 [GA a,S aWt] λm=>.A3 m (.ca 48 [p,GA a] λn=>.rr [n]) (.ca 75 [GA a,S aWw] λo=>.A3 o (.ca 48 [p,GA a] λs=>.rr [s]) (.ca 69 [GA a,S aWW] λu=>.A3 u (.ca 87 [p,I 9] λw=>.rr [w]) (.ca 69 [GA a,S aXV] λy=>.A3 y (.ca 87 [p,I 12] λz=>.rr [z]) (.ca 69 [GA a,S [116,114]] λa0=>.A3 a0 (.ca 87 [p,I 13] λa1=>.rr [a1]) (.ca 69 [GA a,S [116,100,32,116,104]] λa2=>.A3 a2 (.ca 87 [p,I 14] λa5=>.rr [a5]) (.ie [g a 0,I 2] λa7=>.A3 a7 (.ca 87 [p,I 7] λa8=>.rr [a8]) (.ie [g a 0,I 3] λb0=>.A3 b0 (.rr [ff]) (.ca 88 [p] λb1=>.nt [b1] λb2=>.A3 b2 (.ca 82 [p] λ_=>.rr [ff]) (.fa p 2 λ_ b3=>.op (.CC 1) [S aWw] λb4=>.ca 89 [b3,b4] λ_=>.fa p 3 λ_ b5=>.ca 90 [b5] λ_=>.ca 91 [p] λ_=>.ca 92 [p] λ_=>.rr [tt])))))))))))))
def Kd:F7 cx 53 t53:=λ_ _=>AP
def t61(p:Aa):IT:=
 .cells 12 p λa=>.ie [g a 0,I 5] λb=>.A3 b (.BH 101 [g a 11] λc=>.rr [c]) (.rr [ff])
def O_:GM cx 61 t61:=λ_=>AP
def t62(p q r:Aa):IT:=
 .ca 102 [p] λa=>.nt [a] λb=>.A3 b (.rr [.tuple []]) (.ie [r,I 0] λc=>.GK 100014 (.A3 c (.ca 103 [p,I 0] λd=>.op (.ext 0) [d] λe=>.op (.ext 1) [d] λf=>.rn [e,f]) (.rn [r,I 0])) (nx (λh=>.ca 104 [p,g h 0] λj=>.cells 13 j λk=>.GK 200005 (.iq [g k 0,I 1] λm=>.A3 m (.iq [g k 0,I 2] λn=>.A3 n (.iq [g k 0,I 4] λo=>.rn [o]) (.rn [ff])) (.rn [ff])) (nx (λs=>.A3 (g s 0) (.rr [.tuple []]) (.Cj p 0 λ_ _ u=>.ca 105 [u,g k 3,q] λw=>.op (.ext 0) [w] λy=>.op (.ext 1) [w] λz=>.ie [z,I 0] λa0=>.GK 100048 (.A3 a0 (.ca 106 [p,y,g h 0,g h 1] λ_=>.rn []) (.rn [])) (nx (λa1=>.rr [.tuple []]) λa1=>.rr [.tuple []]))) λs=>.rr [.tuple []])) λh=>.rr [.tuple []]))
def uC:SY cx 62 t62:=λ_ _ _=>AP
end Go.Am
