/- Lemmas -/
import Derived.Test.YtbkijlifflhdiaaGreatDoorV9
import Derived.Test.YtbkijlifflhdiaaGreatDoorV18
set_option linter.all false
namespace Go.Am
open Go
def t4(p q:Aa):IT:=
 .cells 6 p λa=>.ca 5 [q,I 60] λb=>.nt [b] λc=>.A4 c (.Ck 7 [] λd=>.rr [d]) (.ca 6 [.agg [g a 1,g a 2,g a 3,g a 4,g a 5]] λe=>.nt [e] λf=>.A4 f (.Ck 7 [] λh=>.rr [h]) (.loop 4 [ff,I 0] (λj=>.ln [q] λk=>.il [g j 1,k] λm=>.A4 m (.ea 9 [q,g j 1] λn=>.fl n 0 λ_ o=>.iq [o,I 1] λs=>.A4 s (.ea 9 [q,g j 1] λu=>.fl u 0 λ_ w=>.iq [w,I 4] λy=>.A4 y (.ea 9 [q,g j 1] λz=>.fl z 0 λ_ a0=>.iq [a0,I 5] λa1=>.A4 a1 (.ea 9 [q,g j 1] λa2=>.fl a2 0 λ_ a5=>.iq [a5,I 15] λa7=>.A4 a7 (.ea 9 [q,g j 1] λa8=>.fl a8 0 λ_ b0=>.iq [b0,I 18] λb1=>.A4 b1 (.Ck 7 [] λb2=>.rr [b2,g j 1]) (.ea 9 [q,g j 1] λb3=>.fl b3 0 λ_ b4=>.ie [b4,I 5] λb5=>.A4 b5 (.ea 9 [q,g j 1] λb6=>.fl b6 4 λ_ b7=>.iq [b7,I 0] λb8=>.A4 b8 (.Ck 7 [] λb9=>.rr [b9,g j 1]) (.ia [g j 1,I 1] λc1=>.rn [g j 0,c1])) (.ia [g j 1,I 1] λc2=>.rn [g j 0,c2]))) (.ea 9 [q,g j 1] λc3=>.fl c3 0 λ_ c4=>.ie [c4,I 5] λc5=>.A4 c5 (.ea 9 [q,g j 1] λc6=>.fl c6 4 λ_ c8=>.iq [c8,I 0] λc9=>.A4 c9 (.Ck 7 [] λd0=>.rr [d0,g j 1]) (.ia [g j 1,I 1] λd1=>.rn [g j 0,d1])) (.ia [g j 1,I 1] λd2=>.rn [g j 0,d2]))) (.ea 9 [q,g j 1] λd3=>.fl d3 0 λ_ d4=>.ie [d4,I 5] λd5=>.A4 d5 (.ea 9 [q,g j 1] λd6=>.fl d6 4 λ_ d7=>.iq [d7,I 0] λd8=>.A4 d8 (.Ck 7 [] λd9=>.rr [d9,g j 1]) (.ia [g j 1,I 1] λe0=>.rn [g j 0,e0])) (.ia [g j 1,I 1] λe1=>.rn [g j 0,e1]))) (.ea 9 [q,g j 1] λe2=>.fl e2 0 λ_ e3=>.ie [e3,I 5] λe4=>.A4 e4 (.ea 9 [q,g j 1] λe5=>.fl e5 4 λ_ e6=>.iq [e6,I 0] λe7=>.A4 e7 (.Ck 7 [] λe8=>.rr [e8,g j 1]) (.ia [g j 1,I 1] λe9=>.rn [g j 0,e9])) (.ia [g j 1,I 1] λf0=>.rn [g j 0,f0]))) (.ea 9 [q,g j 1] λf1=>.fl f1 0 λ_ f2=>.ie [f2,I 5] λf3=>.A4 f3 (.ea 9 [q,g j 1] λf4=>.fl f4 4 λ_ f5=>.iq [f5,I 0] λf6=>.A4 f6 (.Ck 7 [] λf7=>.rr [f7,g j 1]) (.ia [g j 1,I 1] λf8=>.rn [g j 0,f8])) (.ia [g j 1,I 1] λf9=>.rn [g j 0,f9]))) (.rx 0 [g j 0,g j 1])) (lx 0 (λh0=>.ca 8 [a6 a,q] λh1=>.op (.RW false) [h1,.ptr none] λh2=>.A4 h2 (.rr [ff]) (.E4 h1 0 λ_ _ h3=>.ca 9 [h3] λh4=>.loop 13 [g h0 0,I 1] (λh5=>.ln [h4] λh6=>.ik [g h5 1,h6] λh7=>.A4 h7 (.E4 h1 0 λ_ _ h8=>.ca 15 [h8,g h5 1] λh9=>.iq [h9,I 0] λj0=>.A4 j0 (.rr [ff,g h5 1]) (.ia [g h5 1,I 1] λj1=>.rn [g h5 0,j1])) (.rx 2 [g h5 0,g h5 1])) (lx 2 (λj2=>.E4 h1 0 λ_ _ j3=>.ca 9 [j3] λj4=>.ca 16 [h4,j4] λj5=>.A4 j5 (.Ck 7 [] λj6=>.rr [j6]) (.rr [ff])) λj2=>.rr [g j2 0]))) λh0=>.rr [g h0 0])))
def R_:F7 cx 4 t4:=λ_ _=>AQ
def t5(p q:Aa):IT:=
 .loop 2 [ff,I 0] (λa=>.ln [p] λb=>.il [g a 1,b] λc=>.A4 c (.ik [g a 1,q] λd=>.A4 d (.ea 9 [p,g a 1] λe=>.fl e 1 λ_ f=>.lt [f] λh=>.ig [h,I 60] λj=>.A4 j (.rr [ff,g a 1]) (.ea 9 [p,g a 1] λk=>.fl k 6 λ_ m=>.lt [m] λn=>.ig [n,I 200] λo=>.A4 o (.rr [ff,g a 1]) (.ea 9 [p,g a 1] λs=>.fl s 2 λ_ u=>.ca 17 [u] λw=>.nt [w] λy=>.A4 y (.rr [ff,g a 1]) (.ia [g a 1,I 1] λz=>.rn [g a 0,z])))) (.rx 0 [g a 0,g a 1])) (.rx 0 [g a 0,g a 1])) (lx 0 (λa0=>.ln [p] λa1=>.ik [a1,q] λa2=>.rr [a2]) λa0=>.rr [g a0 0])
def S_:F7 cx 5 t5:=λ_ _=>AQ
def t6(p:Aa):IT:=
 .cells 5 p λa=>.lt [g a 1] λb=>.ik [b,I 60] λc=>.A4 c (.ca 17 [g a 2] λd=>.rr [d]) (.rr [ff])
def T_:KC cx 6 t6:=λ_=>AQ
def t8(p q:Aa):IT:=
 .cells 6 p λa=>.ca 18 [a6 a] λb=>.op (.RW false) [b,.ptr none] λc=>.A4 c (.rr [.ptr none]) (.loop 5 [I 0] (λd=>.ln [q] λe=>.il [g d 0,e] λf=>.A4 f (.ea 9 [q,g d 0] λh=>.load (some 9) h λj=>.ca 23 [b,j] λ_=>.ia [g d 0,I 1] λk=>.rn [k]) (.rx 0 [g d 0])) (lx 0 (λm=>.rr [b]) λm=>.rr [.ptr none]))
def U_:F7 cx 8 t8:=λ_ _=>AQ
def t9(p:Aa):IT:=
 .op (.RW false) [p,.ptr none] λa=>.A4 a (.rr [.slnil]) (.E4 p 0 λ_ _ b=>.ln [b] λc=>.loop 5 [.slnil,I 0] (λd=>.il [g d 1,c] λe=>.A4 e (.E4 p 0 λ_ _ f=>.ea 13 [f,g d 1] λh=>.ca 24 [h] λj=>.op (.Cd 13) [j] λk=>.op (.append 13 168) [g d 0,k] λm=>.ia [g d 1,I 1] λn=>.rn [m,n]) (.rx 0 [g d 0,g d 1])) (lx 0 (λo=>.rr [g o 0]) λo=>.rr [.slnil]))
def V_:KC cx 9 t9:=λ_=>AQ
def t14(p:Aa):IT:=
 .ca 25 [p] λa=>.nt [a] λb=>.A4 b (.op (.B4 [I 0,I 0,S [],ff] []) [] λc=>.cells 4 c λd=>.rr [a4 d]) (.fa p 2 λ_ e=>.ca 37 [e] λf=>.cells 4 f λh=>.rr [a4 h])
def sX:KC cx 14 t14:=λ_=>AQ
def t16(p q:Aa):IT:=
 .ln [p] λa=>.ln [q] λb=>.iq [a,b] λc=>.A4 c (.rr [ff]) (.loop 4 [ff,I 0] (λd=>.ln [p] λe=>.il [g d 1,e] λf=>.A4 f (.ea 13 [p,g d 1] λh=>.load (some 13) h λj=>.ea 13 [q,g d 1] λk=>.load (some 13) k λm=>.ca 41 [j,m] λn=>.nt [n] λo=>.A4 o (.rr [ff,g d 1]) (.ia [g d 1,I 1] λs=>.rn [g d 0,s])) (.rx 0 [g d 0,g d 1])) (lx 0 (λu=>.rr [tt]) λu=>.rr [g u 0]))
def pd:F7 cx 16 t16:=λ_ _=>AQ
def t17(p:Aa):IT:=
 .loop 2 [ff,I 0] (λa=>.ln [p] λb=>.il [g a 1,b] λc=>.A4 c (.ik [g a 1,I 20] λd=>.A4 d (.ea 3 [p,g a 1] λe=>.fl e 1 λ_ f=>.lt [f] λh=>.ig [h,I 400] λj=>.A4 j (.rr [ff,g a 1]) (.ea 3 [p,g a 1] λk=>.fl k 2 λ_ m=>.lt [m] λn=>.ig [n,I 400] λo=>.A4 o (.rr [ff,g a 1]) (.ia [g a 1,I 1] λs=>.rn [g a 0,s]))) (.rx 0 [g a 0,g a 1])) (.rx 0 [g a 0,g a 1])) (lx 0 (λu=>.ln [p] λw=>.ik [w,I 20] λy=>.rr [y]) λu=>.rr [g u 0])
def pg:KC cx 17 t17:=λ_=>AQ
def ŗ(p:Aa):IT:=
 .cells 6 p λa=>.ca 42 [] λb=>.ca 43 [b,g a 4] λc=>.A4 (g a 0) (.ca 44 [b,c,.agg [g a 1,g a 2,g a 3,g a 4,g a 5]] λd=>.rr [d]) (.ca 45 [b,c] λe=>.rr [e])
def dS:KC cx 18 ŗ:=λ_=>AQ
def t19(p q:Aa):IT:=
 .cells 12 q λa=>.ca 46 [p,gh a,I 1] λb=>.rr [b]
def sY:F7 cx 19 t19:=λ_ _=>AQ
def t20(p q:Aa):IT:=
 .ca 25 [p] λa=>.nt [a] λb=>.A4 b (.rr [.tuple []]) (.ca 47 [p,I 0] λc=>.op (.ext 0) [c] λd=>.op (.ext 1) [c] λe=>.ca 48 [p,d] λf=>.cells 13 f λh=>.EM 200003 (.iq [g h 0,I 4] λj=>.A4 j (.iq [g h 0,I 2] λk=>.rn [k]) (.rn [ff])) (nx (λm=>.A4 (g m 0) (.rr [.tuple []]) (.ln [g h 2] λn=>.iq [e,I 0] λo=>.EM 100035 (.A4 o (.ca 49 [g h 2,e] λs=>.rn [s]) (.rn [n])) (nx (λu=>.ca 50 [.slnil,q] λw=>.Sn w λy=>.op .Uu [y] λz=>.ig [g u 0,I 0] λa0=>.EM 100044 (.A4 a0 (.ib [g u 0,I 1] λa1=>.ea 1 [g h 2,a1] λa2=>.ld a2 λa5=>.ca 48 [p,a5] λa7=>.cells 13 a7 λa8=>.ie [g a8 0,I 5] λb0=>.A4 b0 (.E4 p 0 λ_ _ b1=>.ib [g u 0,I 1] λb2=>.ea 1 [g h 2,b2] λb3=>.ld b3 λb4=>.op (.str .add) [g a8 7,z] λb5=>.ca 51 [b1,b4,b5] λ_=>.rr []) (.rn [])) (.rn [])) (nx (λb6=>.E4 p 0 λ_ _ b7=>.ca 52 [b7,g h 3,z] λb8=>.op (.ext 0) [b8] λb9=>.op (.ext 1) [b8] λc0=>.ie [c0,I 0] λc1=>.EM 100083 (.A4 c1 (.ca 53 [p,b9,d,e] λ_=>.rn []) (.rn [])) (nx (λc2=>.rr [.tuple []]) λc2=>.rr [.tuple []])) λb6=>.rr [.tuple []])) λu=>.rr [.tuple []]))) λm=>.rr [.tuple []]))
def T0:F7 cx 20 t20:=λ_ _=>AQ
def Ř(p q:Aa):IT:=
 .op (.Cd 1) [q] λa=>.ca 54 [p,a] λb=>.iq [b,I 0] λc=>.A4 c (.op (.B4 [I 0,I 0,.slnil,I 0,I 0,S [],.slnil,S [],S [],S [],ff,I 0,I 0] []) [] λd=>.cells 13 d λe=>.rr [.tuple [yI e,b]]) (.ca 55 [p,q] λf=>.ca 24 [f] λh=>.cells 13 h λj=>.rr [.tuple [yI j,I 0]])
def dT:F7 cx 21 Ř:=λ_ _=>AQ
def Rq(p q:Aa):IT:=
 .cells 9 q λa=>.ie [g a 0,I 1] λb=>.A4 b (.ca 59 [a9 a] λc=>.ca 19 [p,c] λd=>.op (.B4 [I 0,I 0,S [],ff] [(0,1)]) [d] λe=>.cells 4 e λf=>.rr [a4 f]) (.ie [g a 0,I 2] λh=>.A4 h (.ca 59 [a9 a] λj=>.ca 46 [p,j,g a 3] λk=>.op (.B4 [I 0,I 0,S [],ff] [(0,1)]) [k] λm=>.cells 4 m λn=>.rr [a4 n]) (.ie [g a 0,I 3] λo=>.A4 o (.ca 59 [a9 a] λs=>.ca 60 [p,s] λu=>.op (.B4 [I 0,I 0,S [],ff] [(0,1)]) [u] λw=>.cells 4 w λy=>.rr [a4 y]) (.ie [g a 0,I 4] λz=>.A4 z (.ca 20 [p,g a 7] λ_=>.op (.B4 [I 0,I 0,S [],ff] []) [] λa0=>.cells 4 a0 λa1=>.rr [a4 a1]) (.ie [g a 0,I 5] λa2=>.A4 a2 (.ca 61 [p,g a 6,g a 4] λ_=>.op (.B4 [I 0,I 0,S [],ff] []) [] λa5=>.cells 4 a5 λa7=>.rr [a4 a7]) (.ie [g a 0,I 6] λa8=>.A4 a8 (.ca 59 [a9 a] λb0=>.ca 62 [p,b0,g a 8] λ_=>.op (.B4 [I 0,I 0,S [],ff] []) [] λb1=>.cells 4 b1 λb2=>.rr [a4 b2]) (.ie [g a 0,I 7] λb3=>.A4 b3 (.ca 63 [p] λ_=>.op (.B4 [I 0,I 0,S [],ff] []) [] λb4=>.cells 4 b4 λb5=>.rr [a4 b5]) (.ie [g a 0,I 8] λb6=>.A4 b6 (.ca 64 [p] λ_=>.op (.B4 [I 0,I 0,S [],ff] []) [] λb7=>.cells 4 b7 λb8=>.rr [a4 b8]) (.ie [g a 0,I 9] λb9=>.A4 b9 (.ca 65 [p,g a 1] λ_=>.op (.B4 [I 0,I 0,S [],ff] []) [] λc1=>.cells 4 c1 λc2=>.rr [a4 c2]) (.ie [g a 0,I 10] λc3=>.A4 c3 (.ca 66 [p,g a 1] λ_=>.op (.B4 [I 0,I 0,S [],ff] []) [] λc4=>.cells 4 c4 λc6=>.rr [a4 c6]) (.ie [g a 0,I 11] λc7=>.A4 c7 (.ca 67 [p] λ_=>.op (.B4 [I 0,I 0,S [],ff] []) [] λc8=>.cells 4 c8 λc9=>.rr [a4 c9]) (.ie [g a 0,I 12] λd0=>.A4 d0 (.ca 59 [a9 a] λd1=>.ca 68 [p,d1,g a 4] λ_=>.op (.B4 [I 0,I 0,S [],ff] []) [] λd2=>.cells 4 d2 λd3=>.rr [a4 d3]) (.ie [g a 0,I 13] λd4=>.A4 d4 (.ca 69 [p] λ_=>.op (.B4 [I 0,I 0,S [],ff] []) [] λd5=>.cells 4 d5 λd6=>.rr [a4 d6]) (.ie [g a 0,I 14] λd7=>.A4 d7 (.ca 70 [p] λ_=>.op (.B4 [I 0,I 0,S [],ff] []) [] λd8=>.cells 4 d8 λd9=>.rr [a4 d9]) (.ie [g a 0,I 15] λe0=>.A4 e0 (.fa p 15 λ_ e1=>.store 1 e1 (g a 5) (.op (.B4 [I 0,I 0,S [],ff] []) [] λe2=>.cells 4 e2 λe3=>.rr [a4 e3])) (.ie [g a 0,I 16] λe4=>.A4 e4 (.E4 p 6 λ_ _ e5=>.op (.append 1 8) [.slnil,e5] λe6=>.op (.Cd 1) [g a 8] λe7=>.op (.append 1 8) [e6,e7] λe8=>.fa p 6 λ_ e9=>.store 1 e9 e8 (.op (.B4 [I 0,I 0,S [],ff] []) [] λf0=>.cells 4 f0 λf1=>.rr [a4 f1])) (.ie [g a 0,I 17] λf2=>.A4 f2 (.fa p 3 λ_ f3=>.ca 71 [f3] λ_=>.op (.B4 [I 0,I 0,S [],ff] []) [] λf4=>.cells 4 f4 λf5=>.rr [a4 f5]) (.ie [g a 0,I 18] λf6=>.A4 f6 (.fa p 2 λ_ f7=>.ca 73 [f7] λf8=>.ca 72 [f8] λf9=>.cells 4 f9 λh0=>.rr [a4 h0]) (.ie [g a 0,I 19] λh1=>.A4 h1 (.fa p 7 λ_ h2=>.store 1 h2 (g a 4) (.op (.B4 [I 0,I 0,S [],ff] []) [] λh3=>.cells 4 h3 λh4=>.rr [a4 h4])) (.ie [g a 0,I 20] λh5=>.A4 h5 (.fa p 4 λ_ h6=>.store 1 h6 (g a 8) (.op (.B4 [I 0,I 0,S [],ff] []) [] λh7=>.cells 4 h7 λh8=>.rr [a4 h8])) (.ie [g a 0,I 21] λh9=>.A4 h9 (.fa p 3 λ_ j0=>.ca 74 [j0] λ_=>.op (.B4 [I 0,I 0,S [],ff] []) [] λj1=>.cells 4 j1 λj2=>.rr [a4 j2]) (.ie [g a 0,I 22] λj3=>.A4 j3 (.fa p 2 λ_ j4=>.op (.Cd 1) [g a 1] λj5=>.ca 75 [j4,j5] λ_=>.op (.B4 [I 0,I 0,S [],ff] []) [] λj6=>.cells 4 j6 λj7=>.rr [a4 j7]) (.ie [g a 0,I 23] λj8=>.A4 j8 (.fa p 8 λ_ j9=>.store 1 j9 (g a 4) (.op (.B4 [I 0,I 0,S [],ff] []) [] λk0=>.cells 4 k0 λk1=>.rr [a4 k1])) (.ie [g a 0,I 24] λk2=>.A4 k2 (.ca 59 [a9 a] λk3=>.ca 76 [p,k3,g a 3,g a 4] λk4=>.ca 72 [k4] λk5=>.cells 4 k5 λk6=>.rr [a4 k6]) (.op (.B4 [I 0,I 0,S [],ff] []) [] λk7=>.cells 4 k7 λk8=>.rr [a4 k8]))))))))))))))))))))))))
def Ez:F7 cx 23 Rq:=λ_ _=>AQ
def t24(p:Aa):IT:=
 .fa p 0 λ_ a=>.load (some 13) a λb=>.cells 13 b λc=>.fa p 0 λ_ d=>.fl d 2 λ_ e=>.fa p 0 λ_ f=>.fl f 6 λh j=>.ca 77 [e] λk=>.ld h λm=>.same j m (.ca 100027 [j] λn=>.cells 1 k λo=>.cells 1 n λs=>.cells 13 (.agg [g c 0,g c 1,g o 0,g c 3,g c 4,g c 5,g s 0,g c 7,g c 8,g c 9,g c 10,g c 11,g c 12]) λu=>.rr [yI u])
def sZ:KC cx 24 t24:=λ_=>AQ
def t25(p:Aa):IT:=
 .op (.RW true) [p,.ptr none] λa=>.A4 a (.E4 p 0 λ_ _ b=>.op (.RW true) [b,.ptr none] λc=>.rr [c]) (.rr [ff])
def tC:KC cx 25 t25:=λ_=>AQ
def W_(p:Aa):IT:=
 .op (.FN false .sl) [p,.slnil] λa=>.A4 a (.rr [.slnil]) (.op (.EV 1) [] λb=>.op (.append 1 8) [b,p] λc=>.rr [c])
def Xu:KC cx 26 W_:=λ_=>AQ
def t27(p:Aa):IT:=
 .op (.FN false .sl) [p,.slnil] λa=>.A4 a (.rr [.slnil]) (.op (.Cd 3) [] λb=>.Fk 3 40 b p λc=>.rr [c])
def tD:KC cx 27 t27:=λ_=>AQ
end Go.Am
