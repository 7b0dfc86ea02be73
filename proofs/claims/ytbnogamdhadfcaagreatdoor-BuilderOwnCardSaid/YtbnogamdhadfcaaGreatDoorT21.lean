/- Lemmas -/
import Derived.Test.YtbnogamdhadfcaaGreatDoorT10
import Derived.Test.YtbnogamdhadfcaaGreatDoorT18
set_option linter.unusedVariables false
set_option linter.unusedSimpArgs false
namespace Go.Am
open Go
def t4(p q:Aa):IT:=
 .cells 6 p λa=>.call 20 [q,I 60] λb=>.nt [b] λc=>.AJ c (.Bk 7 [] λd=>.rr [d]) (.call 6 [.agg [g a 1,g a 2,g a 3,g a 4,g a 5]] λe=>.nt [e] λf=>.AJ f (.Bk 7 [] λh=>.rr [h]) (.call 21 [a6 a,q] λj=>.op (.ext 0) [j] λk=>.op (.ext 1) [j] λm=>.op (.ext 2) [j] λn=>.nt [n] λo=>.AJ o (.rr [ff]) (.call 100017 [k] λs=>.cells 13 s λu=>.loop 8 [I 0] (λw=>.ln [g u 3] λy=>.il [g w 0,y] λz=>.AJ z (.ea 1 [g u 3,g w 0] λa0=>.store 1 a0 (I (-5)) (.ia [g w 0,I 1] λa1=>.rn [a1])) (.rx 0 [g w 0])) (lx 0 (λa2=>.loop 12 [I 0] (λa5=>.ln [g u 2] λa7=>.il [g a5 0,a7] λa8=>.AJ a8 (.ea 1 [g u 2,g a5 0] λb0=>.store 1 b0 (I (-5)) (.ia [g a5 0,I 1] λb1=>.rn [b1])) (.rx 2 [g a5 0])) (lx 2 (λb2=>.loop 16 [I 0] (λb3=>.ln [g u 4] λb4=>.il [g b3 0,b4] λb5=>.AJ b5 (.loop 19 [I 0] (λb6=>.ea 3 [g u 4,g b3 0] λb7=>.fl b7 2 λ_ b8=>.ln [b8] λb9=>.il [g b6 0,b9] λc1=>.AJ c1 (.ea 3 [g u 4,g b3 0] λc2=>.fl c2 2 λ_ c3=>.ea 3 [g u 4,g b3 0] λc4=>.fl c4 2 λ_ c5=>.ea 3 [c5,g b6 0] λc6=>.fl c6 2 λ_ c7=>.op (.str .add) [c7,S [120]] λc8=>.ea 3 [c3,g b6 0] λc9=>.op (.Ec 2) [c9] λd0=>.store 1 d0 c8 (.ia [g b6 0,I 1] λd1=>.rn [d1])) (.rx 6 [g b6 0])) (λx _=>match x with| .normal=>.fail| .exit i=>if i=6 then .ea 3 [g u 4,g b3 0] λd2=>.op (.Ec 0) [d2] λd3=>.store 1 d3 (I (-5)) (.ia [g b3 0,I 1] λd4=>.rn [d4]) else if i=5 then .ia [g b3 0,I 1] λd5=>.rn [d5] else .ret (.exit i) [g b3 0]| .ret=>.rr [g b3 0])) (.rx 4 [g b3 0])) (lx 4 (λd6=>.call 10 [k,m] λd7=>.AJ d7 (.Bk 7 [] λd8=>.rr [d8]) (.rr [ff])) λd6=>.rr [ff])) λb2=>.rr [ff])) λa2=>.rr [ff]))))
theorem aEx:DU cx 4 t4:=λ_ _=>by kernel_rfl
def t6(p:Aa):IT:=
 .cells 5 p λa=>.lt [g a 1] λb=>.ik [b,I 60] λc=>.AJ c (.call 28 [g a 2] λd=>.rr [d]) (.rr [ff])
theorem aEy:GQ cx 6 t6:=λ_=>by kernel_rfl
def t8(p:Aa):IT:=
 .cells 6 p λa=>.call 12 [] λb=>.call 13 [b,g a 4] λc=>.AJ (g a 0) (.call 16 [b,c,.agg [g a 1,g a 2,g a 3,g a 4,g a 5]] λd=>.rr [d]) (.call 15 [b,c] λe=>.rr [e])
theorem yD:GQ cx 8 t8:=λ_=>by kernel_rfl
def t9(p:Aa):IT:=
 .cells 6 p λa=>.call 36 [] λb=>.call 37 [b,g a 4] λc=>.AJ (g a 0) (.call 38 [b,c,.agg [g a 1,g a 2,g a 3,g a 4,g a 5]] λd=>.rr [d]) (.call 39 [b,c] λe=>.rr [e])
theorem vn:GQ cx 9 t9:=λ_=>by kernel_rfl
def t10(p q:Aa):IT:=
 .op (.Tb true) [p,.ptr none] λa=>.AJ a (.call 17 [p] λb=>.call 40 [q] λc=>.call 18 [b,c] λd=>.AJ d (.BW p 0 λ_ _ e=>.BW q 0 λ_ _ f=>.call 41 [e,f] λh=>.rr [h]) (.rr [ff])) (.rr [ff])
theorem V_:DU cx 10 t10:=λ_ _=>by kernel_rfl
def t11(p:Aa):IT:=
 .cells 4 p λa=>.op (.Bs [I 0,I 0,S [],ff] [(0,1),(1,1),(2,1),(3,1)]) [g a 0,g a 1,g a 2,g a 3] λb=>.cells 4 b λc=>.rr [a4 c]
theorem W_:GQ cx 11 t11:=λ_=>by kernel_rfl
def t12:IT:=
 .op (.Bs [.slnil,.map none] []) [] λa=>.alloc 2 a λb=>.rr [b]
theorem yE:B5 cx 12 []=t12:=by kernel_rfl
def t13(p q:Aa):IT:=
 .op (.Tb false) [p,.ptr none] λa=>.AJ a (.rr [I 0]) (.op (.Bs [I 0,I 0,.slnil,I 0,I 0,S [],.slnil,S [],S [],S [],ff,I 0,I 0] [(0,1),(10,1)]) [I 1,q] λb=>.call 42 [p,b] λc=>.call 43 [p,c] λd=>.fa d 0 λ_ e=>.op (.Ec 3) [e] λf=>.store 1 f c (.rr [c]))
theorem iL:DU cx 13 t13:=λ_ _=>by kernel_rfl
def t14(p q r:Aa):IT:=
 .op (.Bs [I 0,I 0,.slnil,I 0,I 0,S [],.slnil,S [],S [],S [],ff,I 0,I 0] [(0,1),(7,1)]) [I 6,r] λa=>.call 44 [p,q,a] λb=>.op (.ext 0) [b] λc=>.op (.ext 1) [b] λd=>.rr [.tuple [c,d]]
theorem X_:LU cx 14 t14:=λ_ _ _=>by kernel_rfl
def t15(p q:Aa):IT:=
 .call 45 [p,q] λa=>.op (.ext 0) [a] λb=>.op (.ext 1) [a] λc=>.cells 13 b λd=>.iq [c,I 0] λe=>.AJ e (.rr [.ptr none]) (.iq [g d 0,I 1] λf=>.AJ f (.rr [.ptr none]) (.op (.Bs [.ptr none,I 0,.slnil,.slnil,I 0,I 0,.slnil,I 0,I 0,ff,I 0,I 0,S [],ff,ff,ff,S [],ff,I 0,ff] [(0,1),(1,1),(4,1),(14,1)]) [p,q,I 1,tt] λh=>.alloc 20 h λj=>.rr [j]))
theorem yF:DU cx 15 t15:=λ_ _=>by kernel_rfl
def t16(p q r:Aa):IT:=
 .cells 5 r λa=>.call 15 [p,q] λb=>.op (.Tb false) [b,.ptr none] λc=>.AJ c (.rr [.ptr none]) (.op (.Bs [I 0,S [],ff,S [],ff,S [],ff,ff,.slnil,ff,S [],.int .i32 0] [(0,1),(1,1)]) [I 2,S aSL] λd=>.call 46 [b,d,I 1,q] λe=>.cells 4 e λf=>.call 47 [b,g f 0,q,I 0] λ_=>.fa b 2 λ_ h=>.call 48 [h,a4 f] λ_=>.fa b 9 λ_ j=>.store 1 j tt (.call 49 [g a 0,g a 1,g a 2] λk=>.op (.Bs [I 0,I 0,S [],ff] [(1,1),(2,1),(3,1)]) [g a 0,g a 1,k] λm=>.fa b 10 λ_ n=>.store 4 n m (.fa b 10 λ_ o=>.load (some 4) o λs=>.op (.By 1) [S aSC] λu=>.call 50 [s,u] λw=>.AJ w (.op (.By 1) [I 18] λy=>.fa b 6 λ_ z=>.store 1 z y (.call 51 [b] λ_=>.AJ (g a 4) (.fa b 8 λ_ a0=>.store 1 a0 (I (-1)) (.rr [b])) (.rr [b]))) (.call 51 [b] λ_=>.AJ (g a 4) (.fa b 8 λ_ a1=>.store 1 a1 (I (-1)) (.rr [b])) (.rr [b])))))
theorem Vx:LU cx 16 t16:=λ_ _ _=>by kernel_rfl
def t17(p:Aa):IT:=
 .call 52 [p] λa=>.nt [a] λb=>.AJ b (.op (.Bs [I 0,I 0,.slnil,.slnil,.slnil,I 0,I 0,ff,ff,S [],ff,I 0,ff] []) [] λc=>.cells 13 c λd=>.rr [Ts d]) (.BW p 4 λ_ e f=>.BW p 5 λ_ h j=>.BW p 6 λ_ _ k=>.BW p 7 λ_ m n=>.BW p 8 λ_ o s=>.BW p 14 λ_ u w=>.BW p 15 λ_ y z=>.BW p 16 λ_ a0 a1=>.BW p 17 λ_ a2 a5=>.BW p 18 λ_ a7 a8=>.BW p 19 λ_ b0 b1=>.call 53 [k] λb2=>.ld b0 λb3=>.same b1 b3 (.ld a7 λb4=>.same a8 b4 (.ld a2 λb5=>.same a5 b5 (.ld a0 λb6=>.same a1 b6 (.ld y λb7=>.same z b7 (.ld u λb8=>.same w b8 (.ld o λb9=>.same s b9 (.ld m λc0=>.same n c0 (.ld h λc1=>.same j c1 (.ld e λc2=>.same f c2 (.op (.Bs [I 0,I 0,.slnil,.slnil,.slnil,I 0,I 0,ff,ff,S [],ff,I 0,ff] [(0,1),(1,1),(2,1),(5,1),(6,1),(7,1),(8,1),(9,1),(10,1),(11,1),(12,1)]) [f,j,b2,n,s,w,z,a1,a5,a8,b1] λc4=>.cells 13 c4 λc5=>.fa p 2 λ_ c6=>.fl c6 0 λ_ c7=>.ln [c7] λc8=>.loop 5 [Ts c5,I 0] (λc9=>.cells 13 (g c9 0) λd0=>.il [g c9 1,c8] λd1=>.AJ d1 (.ea 4 [c7,g c9 1] λd2=>.load (some 4) d2 λd3=>.cells 4 d3 λd4=>.op (.By 1) [g d4 0] λd5=>.Fs 1 8 (g d0 3) d5 λd6=>.cells 1 d6 λd7=>.ia [g c9 1,I 1] λd8=>.rn [.agg [g d0 0,g d0 1,g d0 2,g d7 0,g d0 4,g d0 5,g d0 6,g d0 7,g d0 8,g d0 9,g d0 10,g d0 11,g d0 12],d8]) (.rx 0 [Ts d0,g c9 1])) (λx d9=>.cells 13 (g d9 0) λe0=>match x with| .normal=>.fail| .exit i=>if i=0 then .fa p 3 λ_ e1=>.fl e1 0 λ_ e2=>.ln [e2] λe3=>.make 3 48 [I 0,S [],.slnil] e3 e3 λe4=>.cells 1 e4 λe5=>.fa p 3 λ_ e6=>.fl e6 0 λ_ e7=>.mem (.copy 3) [g e5 0,e7] λ_=>.ln [g e5 0] λe8=>.loop 12 [I 0] (λe9=>.il [g e9 0,e8] λf0=>.AJ f0 (.ea 3 [g e5 0,g e9 0] λf1=>.fl f1 2 λ_ f2=>.call 54 [f2] λf3=>.ea 3 [g e5 0,g e9 0] λf4=>.op (.Ec 2) [f4] λf5=>.store 1 f5 f3 (.ia [g e9 0,I 1] λf6=>.rn [f6])) (.rx 2 [g e9 0])) (lx 2 (λf7=>.cells 13 (.agg [g e0 0,g e0 1,g e0 2,g e0 3,g e5 0,g e0 5,g e0 6,g e0 7,g e0 8,g e0 9,g e0 10,g e0 11,g e0 12]) λf8=>.rr [Ts f8]) λf7=>.rr [.agg [I 0,I 0,.slnil,.slnil,.slnil,I 0,I 0,ff,ff,S [],ff,I 0,ff]]) else .fail| .ret=>.rr [.agg [I 0,I 0,.slnil,.slnil,.slnil,I 0,I 0,ff,ff,S [],ff,I 0,ff]]))))))))))))
theorem yG:GQ cx 17 t17:=λ_=>by kernel_rfl
def t18(p q:Aa):IT:=
 .cells 13 p λa=>.cells 13 q λb=>.ln [g a 2] λc=>.ln [g b 2] λd=>.iq [c,d] λe=>.AJ e (.rr [ff]) (.call 35 [g a 3,g b 3] λf=>.nt [f] λh=>.AJ h (.rr [ff]) (.call 55 [g a 4,g b 4] λj=>.nt [j] λk=>.AJ k (.rr [ff]) (.loop 4 [ff,I 0] (λm=>.ln [g a 2] λn=>.il [g m 1,n] λo=>.AJ o (.ea 1 [g a 2,g m 1] λs=>.ld s λu=>.ea 1 [g b 2,g m 1] λw=>.ld w λy=>.iq [u,y] λz=>.AJ z (.rr [ff,g m 1]) (.ia [g m 1,I 1] λa0=>.rn [g m 0,a0])) (.rx 0 [g m 0,g m 1])) (lx 0 (λa1=>.ie [g a 0,g b 0] λa2=>.AJ a2 (.ie [g a 1,g b 1] λa5=>.AJ a5 (.ie [g a 5,g b 5] λa7=>.AJ a7 (.ie [g a 6,g b 6] λa8=>.AJ a8 (.op (.beq false) [g a 7,g b 7] λb0=>.AJ b0 (.op (.beq false) [g a 8,g b 8] λb1=>.AJ b1 (.se [g a 9,g b 9] λb2=>.AJ b2 (.op (.beq false) [g a 10,g b 10] λb3=>.AJ b3 (.ie [g a 11,g b 11] λb4=>.AJ b4 (.op (.beq false) [g a 12,g b 12] λb5=>.rr [b5]) (.rr [ff])) (.rr [ff])) (.rr [ff])) (.rr [ff])) (.rr [ff])) (.rr [ff])) (.rr [ff])) (.rr [ff])) (.rr [ff])) λa1=>.rr [g a1 0]))))
theorem Y_:DU cx 18 t18:=λ_ _=>by kernel_rfl
def t19(p:Aa):IT:=
 .op (.Tb false) [p,.ptr none] λa=>.AJ a (.rr [I 0]) (.BW p 0 λ_ _ b=>.ln [b] λc=>.rr [c])
theorem Z_:GQ cx 19 t19:=λ_=>by kernel_rfl
def t20(p q:Aa):IT:=
 .loop 2 [ff,I 0] (λa=>.ln [p] λb=>.il [g a 1,b] λc=>.AJ c (.ik [g a 1,q] λd=>.AJ d (.ea 9 [p,g a 1] λe=>.fl e 1 λ_ f=>.lt [f] λh=>.ig [h,I 60] λj=>.AJ j (.rr [ff,g a 1]) (.ea 9 [p,g a 1] λk=>.fl k 6 λ_ m=>.lt [m] λn=>.ig [n,I 200] λo=>.AJ o (.rr [ff,g a 1]) (.ea 9 [p,g a 1] λs=>.fl s 2 λ_ u=>.call 28 [u] λw=>.nt [w] λy=>.AJ y (.rr [ff,g a 1]) (.ia [g a 1,I 1] λz=>.rn [g a 0,z])))) (.rx 0 [g a 0,g a 1])) (.rx 0 [g a 0,g a 1])) (lx 0 (λa0=>.ln [p] λa1=>.ik [a1,q] λa2=>.rr [a2]) λa0=>.rr [g a0 0])
theorem aAa:DU cx 20 t20:=λ_ _=>by kernel_rfl
def t21(p q:Aa):IT:=
 .cells 6 p λa=>.call 8 [a6 a] λb=>.call 9 [a6 a] λc=>.op (.Tb false) [b,.ptr none] λd=>.AJ d (.rr [.tuple [b,c,ff]]) (.loop 5 [.ptr none,.ptr none,ff,I 0] (λe=>.ln [q] λf=>.il [g e 3,f] λh=>.AJ h (.ea 9 [q,g e 3] λj=>.load (some 9) j λk=>.ea 9 [q,g e 3] λm=>.load (some 9) m λn=>.call 23 [b,k] λo=>.load (some 9) m λs=>.same n s (.call 56 [c,n] λu=>.op (.geq true [.i,.i,.s,.b]) [o,u] λw=>.AJ w (.rr [b,c,ff,g e 3]) (.ia [g e 3,I 1] λy=>.rn [g e 0,g e 1,g e 2,y]))) (.rx 0 [g e 0,g e 1,g e 2,g e 3])) (lx 0 (λz=>.rr [.tuple [b,c,tt]]) λz=>.rr [.tuple [g z 0,g z 1,g z 2]]))
theorem aAb:DU cx 21 t21:=λ_ _=>by kernel_rfl
def t22(p q:Aa):IT:=
 .il [q,I 0] λa=>.AJ a (.op (.Bs [I 0,I 0,S [],ff] []) [] λb=>.cells 4 b λc=>.rr [a4 c]) (.call 24 [p] λd=>.ih [q,d] λe=>.AJ e (.op (.Bs [I 0,I 0,S [],ff] []) [] λf=>.cells 4 f λh=>.rr [a4 h]) (.BW p 0 λ_ _ j=>.ea 4 [j,q] λk=>.load (some 4) k λm=>.cells 4 m λn=>.rr [a4 n]))
theorem yH:DU cx 22 t22:=λ_ _=>by kernel_rfl
def S3(p q:Aa):IT:=
 .cells 9 q λa=>.ie [g a 0,I 1] λb=>.AJ b (.call 57 [a9 a] λc=>.call 29 [p,c] λd=>.op (.Bs [I 0,I 0,S [],ff] [(0,1)]) [d] λe=>.cells 4 e λf=>.rr [a4 f]) (.ie [g a 0,I 2] λh=>.AJ h (.call 57 [a9 a] λj=>.call 58 [p,j,g a 3] λk=>.op (.Bs [I 0,I 0,S [],ff] [(0,1)]) [k] λm=>.cells 4 m λn=>.rr [a4 n]) (.ie [g a 0,I 3] λo=>.AJ o (.call 57 [a9 a] λs=>.call 30 [p,s] λu=>.op (.Bs [I 0,I 0,S [],ff] [(0,1)]) [u] λw=>.cells 4 w λy=>.rr [a4 y]) (.ie [g a 0,I 4] λz=>.AJ z (.call 31 [p,g a 7] λ_=>.op (.Bs [I 0,I 0,S [],ff] []) [] λa0=>.cells 4 a0 λa1=>.rr [a4 a1]) (.ie [g a 0,I 5] λa2=>.AJ a2 (.call 59 [p,g a 6,g a 4] λ_=>.op (.Bs [I 0,I 0,S [],ff] []) [] λa5=>.cells 4 a5 λa7=>.rr [a4 a7]) (.ie [g a 0,I 6] λa8=>.AJ a8 (.call 57 [a9 a] λb0=>.call 60 [p,b0,g a 8] λ_=>.op (.Bs [I 0,I 0,S [],ff] []) [] λb1=>.cells 4 b1 λb2=>.rr [a4 b2]) (.ie [g a 0,I 7] λb3=>.AJ b3 (.call 61 [p] λ_=>.op (.Bs [I 0,I 0,S [],ff] []) [] λb4=>.cells 4 b4 λb5=>.rr [a4 b5]) (.ie [g a 0,I 8] λb6=>.AJ b6 (.call 62 [p] λ_=>.op (.Bs [I 0,I 0,S [],ff] []) [] λb7=>.cells 4 b7 λb8=>.rr [a4 b8]) (.ie [g a 0,I 9] λb9=>.AJ b9 (.call 63 [p,g a 1] λ_=>.op (.Bs [I 0,I 0,S [],ff] []) [] λc1=>.cells 4 c1 λc2=>.rr [a4 c2]) (.ie [g a 0,I 10] λc3=>.AJ c3 (.call 33 [p,g a 1] λ_=>.op (.Bs [I 0,I 0,S [],ff] []) [] λc4=>.cells 4 c4 λc6=>.rr [a4 c6]) (.ie [g a 0,I 11] λc7=>.AJ c7 (.call 51 [p] λ_=>.op (.Bs [I 0,I 0,S [],ff] []) [] λc8=>.cells 4 c8 λc9=>.rr [a4 c9]) (.ie [g a 0,I 12] λd0=>.AJ d0 (.call 57 [a9 a] λd1=>.call 64 [p,d1,g a 4] λ_=>.op (.Bs [I 0,I 0,S [],ff] []) [] λd2=>.cells 4 d2 λd3=>.rr [a4 d3]) (.ie [g a 0,I 13] λd4=>.AJ d4 (.call 65 [p] λ_=>.op (.Bs [I 0,I 0,S [],ff] []) [] λd5=>.cells 4 d5 λd6=>.rr [a4 d6]) (.ie [g a 0,I 14] λd7=>.AJ d7 (.call 66 [p] λ_=>.op (.Bs [I 0,I 0,S [],ff] []) [] λd8=>.cells 4 d8 λd9=>.rr [a4 d9]) (.ie [g a 0,I 15] λe0=>.AJ e0 (.fa p 15 λ_ e1=>.store 1 e1 (g a 5) (.op (.Bs [I 0,I 0,S [],ff] []) [] λe2=>.cells 4 e2 λe3=>.rr [a4 e3])) (.ie [g a 0,I 16] λe4=>.AJ e4 (.BW p 6 λ_ _ e5=>.op (.append 1 8) [.slnil,e5] λe6=>.op (.By 1) [g a 8] λe7=>.op (.append 1 8) [e6,e7] λe8=>.fa p 6 λ_ e9=>.store 1 e9 e8 (.op (.Bs [I 0,I 0,S [],ff] []) [] λf0=>.cells 4 f0 λf1=>.rr [a4 f1])) (.ie [g a 0,I 17] λf2=>.AJ f2 (.fa p 3 λ_ f3=>.call 67 [f3] λ_=>.op (.Bs [I 0,I 0,S [],ff] []) [] λf4=>.cells 4 f4 λf5=>.rr [a4 f5]) (.ie [g a 0,I 18] λf6=>.AJ f6 (.fa p 2 λ_ f7=>.call 68 [f7] λf8=>.call 11 [f8] λf9=>.cells 4 f9 λh0=>.rr [a4 h0]) (.ie [g a 0,I 19] λh1=>.AJ h1 (.fa p 7 λ_ h2=>.store 1 h2 (g a 4) (.op (.Bs [I 0,I 0,S [],ff] []) [] λh3=>.cells 4 h3 λh4=>.rr [a4 h4])) (.ie [g a 0,I 20] λh5=>.AJ h5 (.fa p 4 λ_ h6=>.store 1 h6 (g a 8) (.op (.Bs [I 0,I 0,S [],ff] []) [] λh7=>.cells 4 h7 λh8=>.rr [a4 h8])) (.ie [g a 0,I 21] λh9=>.AJ h9 (.fa p 3 λ_ j0=>.call 69 [j0] λ_=>.op (.Bs [I 0,I 0,S [],ff] []) [] λj1=>.cells 4 j1 λj2=>.rr [a4 j2]) (.ie [g a 0,I 22] λj3=>.AJ j3 (.fa p 2 λ_ j4=>.op (.By 1) [g a 1] λj5=>.call 70 [j4,j5] λ_=>.op (.Bs [I 0,I 0,S [],ff] []) [] λj6=>.cells 4 j6 λj7=>.rr [a4 j7]) (.ie [g a 0,I 23] λj8=>.AJ j8 (.fa p 8 λ_ j9=>.store 1 j9 (g a 4) (.op (.Bs [I 0,I 0,S [],ff] []) [] λk0=>.cells 4 k0 λk1=>.rr [a4 k1])) (.ie [g a 0,I 24] λk2=>.AJ k2 (.call 57 [a9 a] λk3=>.call 46 [p,k3,g a 3,g a 4] λk4=>.call 11 [k4] λk5=>.cells 4 k5 λk6=>.rr [a4 k6]) (.op (.Bs [I 0,I 0,S [],ff] []) [] λk7=>.cells 4 k7 λk8=>.rr [a4 k8]))))))))))))))))))))))))
theorem E5:DU cx 23 S3:=λ_ _=>by kernel_rfl
def t24(p:Aa):IT:=
 .op (.Tb false) [p,.ptr none] λa=>.AJ a (.rr [I 0]) (.BW p 0 λ_ _ b=>.ln [b] λc=>.rr [c])
theorem yI:GQ cx 24 t24:=λ_=>by kernel_rfl
def t25(p:Aa):IT:=
 .op (.Tb false) [p,.ptr none] λa=>.AJ a (.rr [.slnil]) (.BW p 0 λ_ _ b=>.ln [b] λc=>.loop 5 [.slnil,I 0] (λd=>.il [g d 1,c] λe=>.AJ e (.BW p 0 λ_ _ f=>.ea 13 [f,g d 1] λh=>.call 71 [h] λj=>.op (.By 13) [j] λk=>.op (.append 13 168) [g d 0,k] λm=>.ia [g d 1,I 1] λn=>.rn [m,n]) (.rx 0 [g d 0,g d 1])) (lx 0 (λo=>.rr [g o 0]) λo=>.rr [.slnil]))
theorem aAc:GQ cx 25 t25:=λ_=>by kernel_rfl
def t28(p:Aa):IT:=
 .loop 2 [ff,I 0] (λa=>.ln [p] λb=>.il [g a 1,b] λc=>.AJ c (.ik [g a 1,I 20] λd=>.AJ d (.ea 3 [p,g a 1] λe=>.fl e 1 λ_ f=>.lt [f] λh=>.ig [h,I 400] λj=>.AJ j (.rr [ff,g a 1]) (.ea 3 [p,g a 1] λk=>.fl k 2 λ_ m=>.lt [m] λn=>.ig [n,I 400] λo=>.AJ o (.rr [ff,g a 1]) (.ia [g a 1,I 1] λs=>.rn [g a 0,s]))) (.rx 0 [g a 0,g a 1])) (.rx 0 [g a 0,g a 1])) (lx 0 (λu=>.ln [p] λw=>.ik [w,I 20] λy=>.rr [y]) λu=>.rr [g u 0])
theorem aAd:GQ cx 28 t28:=λ_=>by kernel_rfl
def t29(p q:Aa):IT:=
 .cells 12 q λa=>.call 58 [p,tX a,I 1] λb=>.rr [b]
theorem yJ:DU cx 29 t29:=λ_ _=>by kernel_rfl
def t30(p q:Aa):IT:=
 .cells 12 q λa=>.call 29 [p,tX a] λb=>.iq [b,I 0] λc=>.AJ c (.fa p 3 λ_ d=>.op (.Bs [I 0,S [],.slnil] [(0,1),(1,1),(2,1)]) [b,g a 1,g a 8] λe=>.call 84 [d,e] λ_=>.rr [b]) (.rr [b])
theorem yK:DU cx 30 t30:=λ_ _=>by kernel_rfl
def t31(p q:Aa):IT:=
 .call 52 [p] λa=>.nt [a] λb=>.AJ b (.rr [.tuple []]) (.call 85 [p,I 0] λc=>.op (.ext 0) [c] λd=>.op (.ext 1) [c] λe=>.call 86 [p,d] λf=>.cells 13 f λh=>.Di 200003 (.iq [g h 0,I 4] λj=>.AJ j (.iq [g h 0,I 2] λk=>.rn [k]) (.rn [ff])) (nx (λm=>.AJ (g m 0) (.rr [.tuple []]) (.ln [g h 2] λn=>.iq [e,I 0] λo=>.Di 100035 (.AJ o (.call 87 [g h 2,e] λs=>.rn [s]) (.rn [n])) (nx (λu=>.call 88 [.slnil,q] λw=>.KW w λy=>.op .Tc [y] λz=>.ig [g u 0,I 0] λa0=>.Di 100044 (.AJ a0 (.ib [g u 0,I 1] λa1=>.ea 1 [g h 2,a1] λa2=>.ld a2 λa5=>.call 86 [p,a5] λa7=>.cells 13 a7 λa8=>.ie [g a8 0,I 5] λb0=>.AJ b0 (.BW p 0 λ_ _ b1=>.ib [g u 0,I 1] λb2=>.ea 1 [g h 2,b2] λb3=>.ld b3 λb4=>.op (.str .add) [g a8 7,z] λb5=>.call 89 [b1,b4,b5] λ_=>.rr []) (.rn [])) (.rn [])) (nx (λb6=>.BW p 0 λ_ _ b7=>.call 90 [b7,g h 3,z] λb8=>.op (.ext 0) [b8] λb9=>.op (.ext 1) [b8] λc0=>.ie [c0,I 0] λc1=>.Di 100083 (.AJ c1 (.call 47 [p,b9,d,e] λ_=>.rn []) (.rn [])) (nx (λc2=>.rr [.tuple []]) λc2=>.rr [.tuple []])) λb6=>.rr [.tuple []])) λu=>.rr [.tuple []]))) λm=>.rr [.tuple []]))
theorem Vy:DU cx 31 t31:=λ_ _=>by kernel_rfl
def t32(p:Aa):IT:=
 .call 52 [p] λa=>.nt [a] λb=>.AJ b (.op (.Bs [I 0,I 0,S [],ff] []) [] λc=>.cells 4 c λd=>.rr [a4 d]) (.fa p 2 λ_ e=>.call 91 [e] λf=>.cells 4 f λh=>.rr [a4 h])
theorem yL:GQ cx 32 t32:=λ_=>by kernel_rfl
def t33(p q:Aa):IT:=
 .call 52 [p] λa=>.nt [a] λb=>.AJ b (.rr [.tuple []]) (.call 32 [p] λc=>.cells 4 c λd=>.op (.By 1) [q] λe=>.call 50 [a4 d,e] λf=>.AJ f (.fa p 3 λ_ h=>.call 92 [h,g d 0] λj=>.il [j,I 0] λk=>.AJ k (.fa p 2 λ_ m=>.call 68 [m] λ_=>.rr [.tuple []]) (.loop 5 [I 0] (λn=>.il [g n 0,I 8] λo=>.AJ o (.call 93 [p,q] λs=>.nt [s] λu=>.AJ u (.rr [g n 0]) (.ia [g n 0,I 1] λw=>.rn [w])) (.rx 0 [g n 0])) (lx 0 (λy=>.rr [.tuple []]) λy=>.rr [.tuple []]))) (.loop 5 [I 0] (λz=>.il [g z 0,I 8] λa0=>.AJ a0 (.call 93 [p,q] λa1=>.nt [a1] λa2=>.AJ a2 (.rr [g z 0]) (.ia [g z 0,I 1] λa5=>.rn [a5])) (.rx 0 [g z 0])) (lx 0 (λa7=>.rr [.tuple []]) λa7=>.rr [.tuple []])))
theorem iM:DU cx 33 t33:=λ_ _=>by kernel_rfl
def t35(p q:Aa):IT:=
 .ln [p] λa=>.ln [q] λb=>.iq [a,b] λc=>.AJ c (.rr [ff]) (.loop 4 [ff,I 0] (λd=>.ln [p] λe=>.il [g d 1,e] λf=>.AJ f (.ea 1 [p,g d 1] λh=>.ld h λj=>.ea 1 [q,g d 1] λk=>.ld k λm=>.iq [j,m] λn=>.AJ n (.rr [ff,g d 1]) (.ia [g d 1,I 1] λo=>.rn [g d 0,o])) (.rx 0 [g d 0,g d 1])) (lx 0 (λs=>.rr [tt]) λs=>.rr [g s 0]))
theorem yM:DU cx 35 t35:=λ_ _=>by kernel_rfl
def t37(p q:Aa):IT:=
 .BW p 0 λ_ _ a=>.ln [a] λb=>.op (.Bs [I 0,I 0,.slnil,I 0,I 0,S [],.slnil,S [],S [],S [],ff,I 0,I 0] [(0,1),(3,1),(10,1)]) [I 1,b,q] λc=>.call 97 [p,c] λd=>.rr [d]
theorem aAe:DU cx 37 t37:=λ_ _=>by kernel_rfl
def t38(p q r:Aa):IT:=
 .cells 5 r λa=>.call 39 [p,q] λb=>.op (.Tb false) [b,.ptr none] λc=>.AJ c (.rr [.ptr none]) (.call 98 [p,q,I 1,S aSL,.slnil] λd=>.op (.ext 0) [d] λe=>.op (.ext 1) [d] λ_=>.call 99 [b,q,e,I 0] λ_=>.op (.Bs [I 0,I 0,S [],ff] [(0,1),(1,1),(2,1)]) [e,I 1,S aSL] λf=>.op (.By 4) [f] λh=>.fa b 2 λ_ j=>.store 1 j h (.fa b 9 λ_ k=>.store 1 k tt (.call 100 [g a 0,g a 1,g a 2] λm=>.op (.Bs [I 0,I 0,S [],ff] [(1,1),(2,1),(3,1)]) [g a 0,g a 1,m] λn=>.fa b 10 λ_ o=>.store 4 o n (.ie [g a 0,I 1] λs=>.AJ s (.se [g a 1,S aSC] λu=>.AJ u (.op (.By 1) [I 18] λw=>.fa b 6 λ_ y=>.store 1 y w (.call 101 [b] λ_=>.AJ (g a 4) (.fa b 8 λ_ z=>.store 1 z (I (-1)) (.rr [b])) (.rr [b]))) (.call 101 [b] λ_=>.AJ (g a 4) (.fa b 8 λ_ a0=>.store 1 a0 (I (-1)) (.rr [b])) (.rr [b]))) (.call 101 [b] λ_=>.AJ (g a 4) (.fa b 8 λ_ a1=>.store 1 a1 (I (-1)) (.rr [b])) (.rr [b]))))))
theorem aAf:LU cx 38 t38:=λ_ _ _=>by kernel_rfl
def t39(p q:Aa):IT:=
 .call 102 [p,q] λa=>.iq [a,I 0] λb=>.AJ b (.rr [.ptr none]) (.op (.Bs [.ptr none,I 0,.slnil,.slnil,I 0,I 0,.slnil,I 0,I 0,ff,I 0,I 0,S [],ff,ff,ff,S [],ff,I 0,ff] [(0,1),(1,1),(4,1),(14,1)]) [p,q,I 1,tt] λc=>.alloc 20 c λd=>.rr [d])
theorem aAg:DU cx 39 t39:=λ_ _=>by kernel_rfl
def t40(p:Aa):IT:=
 .BW p 4 λ_ _ a=>.BW p 5 λ_ _ b=>.BW p 6 λ_ _ c=>.op (.append 1 8) [.slnil,c] λd=>.BW p 7 λ_ _ e=>.BW p 8 λ_ _ f=>.BW p 14 λ_ _ h=>.BW p 15 λ_ _ j=>.BW p 16 λ_ _ k=>.BW p 17 λ_ _ m=>.BW p 18 λ_ _ n=>.BW p 19 λ_ _ o=>.op (.Bs [I 0,I 0,.slnil,.slnil,.slnil,I 0,I 0,ff,ff,S [],ff,I 0,ff] [(0,1),(1,1),(2,1),(5,1),(6,1),(7,1),(8,1),(9,1),(10,1),(11,1),(12,1)]) [a,b,d,e,f,h,j,k,m,n,o] λs=>.cells 13 s λu=>.loop 3 [Ts u,I 0] (λw=>.cells 13 (g w 0) λy=>.BW p 2 λ_ _ z=>.ln [z] λa0=>.il [g w 1,a0] λa1=>.AJ a1 (.BW p 2 λ_ _ a2=>.ea 4 [a2,g w 1] λa5=>.fl a5 0 λ_ a7=>.op (.By 1) [a7] λa8=>.Fs 1 8 (g y 3) a8 λb0=>.cells 1 b0 λb1=>.ia [g w 1,I 1] λb2=>.rn [.agg [g y 0,g y 1,g y 2,g b1 0,g y 4,g y 5,g y 6,g y 7,g y 8,g y 9,g y 10,g y 11,g y 12],b2]) (.rx 0 [Ts y,g w 1])) (λx b3=>.cells 13 (g b3 0) λb4=>match x with| .normal=>.fail| .exit i=>if i=0 then .loop 7 [Ts b4,I 0] (λb5=>.cells 13 (g b5 0) λb6=>.BW p 3 λ_ _ b7=>.ln [b7] λb8=>.il [g b5 1,b8] λb9=>.AJ b9 (.BW p 3 λ_ _ c0=>.ea 3 [c0,g b5 1] λc1=>.load (some 3) c1 λc2=>.cells 3 c2 λc3=>.op (.append 3 40) [.slnil,g c3 2] λc4=>.op (.Bs [I 0,S [],.slnil] [(0,1),(1,1),(2,1)]) [g c3 0,g c3 1,c4] λc5=>.op (.By 3) [c5] λc6=>.Fs 3 48 (g b6 4) c6 λc7=>.cells 1 c7 λc8=>.ia [g b5 1,I 1] λc9=>.rn [.agg [g b6 0,g b6 1,g b6 2,g b6 3,g c8 0,g b6 5,g b6 6,g b6 7,g b6 8,g b6 9,g b6 10,g b6 11,g b6 12],c9]) (.rx 2 [Ts b6,g b5 1])) (λx d0=>.cells 13 (g d0 0) λd1=>match x with| .normal=>.fail| .exit i=>if i=2 then .cells 13 (Ts d1) λd2=>.rr [Ts d2] else .fail| .ret=>.rr [.agg [I 0,I 0,.slnil,.slnil,.slnil,I 0,I 0,ff,ff,S [],ff,I 0,ff]]) else .fail| .ret=>.rr [.agg [I 0,I 0,.slnil,.slnil,.slnil,I 0,I 0,ff,ff,S [],ff,I 0,ff]])
theorem aAh:GQ cx 40 t40:=λ_=>by kernel_rfl
def t41(p q:Aa):IT:=
 .call 19 [p] λa=>.call 103 [q] λb=>.ie [a,b] λc=>.AJ c (.call 25 [p] λd=>.call 105 [q] λe=>.call 104 [d,e] λf=>.rr [f]) (.rr [ff])
theorem aAi:DU cx 41 t41:=λ_ _=>by kernel_rfl
def t42(p q:Aa):IT:=
 .cells 13 q λa=>.BW p 0 λ_ _ b=>.op (.Bs [I 0,I 0,.slnil,I 0,I 0,S [],.slnil,S [],S [],S [],ff,I 0,I 0] [(0,13)]) [Ts a] λc=>.op (.By 13) [c] λd=>.Fs 13 168 b d λe=>.fa p 0 λ_ f=>.store 1 f e (.BW p 0 λ_ _ h=>.ln [h] λj=>.rr [j])
theorem iN:DU cx 42 t42:=λ_ _=>by kernel_rfl
def t43(p q:Aa):IT:=
 .BW p 0 λ_ _ a=>.ib [q,I 1] λb=>.ea 13 [a,b] λc=>.rr [c]
theorem iO:DU cx 43 t43:=λ_ _=>by kernel_rfl
def t44(p q r:Aa):IT:=
 .cells 13 r λa=>.call 106 [p,q] λb=>.iq [b,I 0] λc=>.AJ c (.rr [.tuple [I 0,b]]) (.cells 1 q λd=>.call 42 [p,.agg [g a 0,g a 1,g a 2,g d 0,g a 4,g a 5,g a 6,g a 7,g a 8,g a 9,g a 10,g a 11,g a 12]] λe=>.rr [.tuple [e,I 0]])
theorem yN:LU cx 44 t44:=λ_ _ _=>by kernel_rfl
def t45(p q:Aa):IT:=
 .op (.By 1) [q] λa=>.call 107 [p,a] λb=>.iq [b,I 0] λc=>.AJ c (.op (.Bs [I 0,I 0,.slnil,I 0,I 0,S [],.slnil,S [],S [],S [],ff,I 0,I 0] []) [] λd=>.cells 13 d λe=>.rr [.tuple [Ts e,b]]) (.call 43 [p,q] λf=>.call 71 [f] λh=>.cells 13 h λj=>.rr [.tuple [Ts j,I 0]])
theorem iP:DU cx 45 t45:=λ_ _=>by kernel_rfl
def t46(p q r u:Aa):IT:=
 .cells 12 q λa=>.Di 200001 (.call 52 [p] λb=>.nt [b] λc=>.AJ c (.rn [tt]) (.il [r,I 0] λd=>.AJ d (.rn [tt]) (.ig [r,I 7] λe=>.rn [e]))) (nx (λf=>.AJ (g f 0) (.op (.Bs [I 0,I 0,S [],ff] []) [] λh=>.cells 4 h λj=>.rr [a4 j]) (.call 108 [r,g a 8] λk=>.ie [r,I 2] λm=>.Di 100032 (.AJ m (.Bk 109 [g a 1] λn=>.rn [n]) (.rn [g a 1])) (nx (λo=>.BW p 0 λ_ s w=>.call 111 [p,u] λy=>.ld s λz=>.same w z (.call 110 [w,y,r,g o 0,k] λa0=>.op (.ext 0) [a0] λa1=>.op (.ext 1) [a0] λa2=>.iq [a2,I 0] λa5=>.AJ a5 (.op (.Bs [I 0,I 0,S [],ff] []) [] λa7=>.cells 4 a7 λa8=>.rr [a4 a8]) (.call 49 [r,g o 0,k] λb0=>.op (.Bs [I 0,I 0,S [],ff] [(0,1),(1,1),(2,1),(3,1)]) [a1,r,g o 0,b0] λb1=>.cells 4 b1 λb2=>.rr [a4 b2]))) λo=>.rr [.agg [I 0,I 0,S [],ff]]))) λf=>.rr [.agg [I 0,I 0,S [],ff]])
theorem iQ:dk cx 46 t46:=λ_ _ _ _=>by kernel_rfl
def t47(p q r u:Aa):IT:=
 .cells 1 p λa=>.call 86 [g a 0,r] λb=>.op (.part 0 none) [b] λc=>.ie [c,I 1] λd=>.AJ d (.call 86 [g a 0,q] λe=>.op (.part 0 none) [e] λf=>.ie [f,I 4] λh=>.AJ h (.BW (g a 0) 0 λ_ _ j=>.call 113 [j,r] λk=>.call 112 [k,.func (.func 114) [] [.CB [g a 0]]] λm=>.AJ m (.rr [.tuple []]) (.ld (.CB [g a 0]) λn=>.BW n 0 λ_ _ o=>.call 115 [o,r,q,u] λ_=>.rr [.tuple []])) (.BW (g a 0) 0 λ_ _ s=>.call 115 [s,r,q,u] λ_=>.rr [.tuple []])) (.BW (g a 0) 0 λ_ _ w=>.call 115 [w,r,q,u] λ_=>.rr [.tuple []])
theorem Vz:dk cx 47 t47:=λ_ _ _ _=>by kernel_rfl
def t48(p q:Aa):IT:=
 .cells 4 q λa=>.op (.Tb true) [p,.ptr none] λb=>.AJ b (.BW p 0 λ_ _ c=>.BW p 0 λ_ _ d=>.ln [d] λe=>.call 116 [c,a4 a,e] λf=>.fa p 0 λ_ h=>.store 1 h f (.rr [.tuple []])) (.rr [.tuple []])
theorem yO:DU cx 48 t48:=λ_ _=>by kernel_rfl
def t49(p q r:Aa):IT:=
 .ie [p,I 2] λa=>.AJ a (.Bk 117 [p,q] λb=>.rr [b]) (.iq [p,I 3] λc=>.AJ c (.rr [ff]) (.op (.str .neq) [q,S aSF] λd=>.AJ d (.rr [ff]) (.call 118 [r,.func (.func 119) [] []] λe=>.ih [e,I 0] λf=>.AJ f (.ea 3 [r,e] λh=>.fl h 2 λ_ j=>.Bk 120 [j,S aTb] λk=>.AJ k (.rr [tt]) (.ea 3 [r,e] λm=>.fl m 2 λ_ n=>.Bk 120 [n,S aSK] λo=>.rr [o])) (.rr [ff]))))
theorem yP:LU cx 49 t49:=λ_ _ _=>by kernel_rfl
def t50(p q:Aa):IT:=
 .cells 4 p λa=>.ie [g a 1,I 1] λb=>.AJ b (.call 121 [q,g a 2] λc=>.rr [c]) (.rr [ff])
theorem yQ:DU cx 50 t50:=λ_ _=>by kernel_rfl
def t51(p:Aa):IT:=
 .call 52 [p] λa=>.nt [a] λb=>.AJ b (.rr [.tuple []]) (.fa p 4 λ_ c=>.store 1 c (I 7) (.fa p 2 λ_ d=>.call 24 [d] λe=>.ib [e,I 1] λf=>.loop 3 [f] (λh=>.ih [g h 0,I 0] λj=>.AJ j (.fa p 2 λ_ k=>.call 22 [k,g h 0] λm=>.cells 4 m λn=>.ie [g h 0,I 0] λo=>.AJ o (.BW p 9 λ_ _ s=>.AJ s (.fa p 10 λ_ u=>.load (some 4) u λw=>.cells 4 w λy=>.call 122 [p,a4 y,g h 0] λz=>.op (.ext 0) [z] λa0=>.op (.ext 1) [z] λa1=>.AJ a1 (.fa p 4 λ_ a2=>.store 1 a2 a0 (.rr [g h 0])) (.ib [g h 0,I 1] λa5=>.rn [a5])) (.call 122 [p,a4 n,g h 0] λa7=>.op (.ext 0) [a7] λa8=>.op (.ext 1) [a7] λb0=>.AJ b0 (.fa p 4 λ_ b1=>.store 1 b1 a8 (.rr [g h 0])) (.ib [g h 0,I 1] λb2=>.rn [b2]))) (.call 122 [p,a4 n,g h 0] λb3=>.op (.ext 0) [b3] λb4=>.op (.ext 1) [b3] λb5=>.AJ b5 (.fa p 4 λ_ b6=>.store 1 b6 b4 (.rr [g h 0])) (.ib [g h 0,I 1] λb7=>.rn [b7]))) (.rx 0 [g h 0])) (lx 0 (λb8=>.rr [.tuple []]) λb8=>.rr [.tuple []])))
theorem yR:GQ cx 51 t51:=λ_=>by kernel_rfl
def t52(p:Aa):IT:=
 .op (.Tb true) [p,.ptr none] λa=>.AJ a (.BW p 0 λ_ _ b=>.op (.Tb true) [b,.ptr none] λc=>.rr [c]) (.rr [ff])
theorem yS:GQ cx 52 t52:=λ_=>by kernel_rfl
def t53(p:Aa):IT:=
 .op (.Gp false .sl) [p,.slnil] λa=>.AJ a (.rr [.slnil]) (.op (.By 1) [] λb=>.op (.append 1 8) [b,p] λc=>.rr [c])
theorem iR:GQ cx 53 t53:=λ_=>by kernel_rfl
def t54(p:Aa):IT:=
 .op (.Gp false .sl) [p,.slnil] λa=>.AJ a (.rr [.slnil]) (.op (.By 3) [] λb=>.FX 3 40 b p λc=>.rr [c])
theorem iS:GQ cx 54 t54:=λ_=>by kernel_rfl
def t55(p q:Aa):IT:=
 .ln [p] λa=>.ln [q] λb=>.iq [a,b] λc=>.AJ c (.rr [ff]) (.loop 4 [ff,I 0] (λd=>.ln [p] λe=>.il [g d 1,e] λf=>.AJ f (.ea 3 [p,g d 1] λh=>.fl h 0 λ_ j=>.ea 3 [q,g d 1] λk=>.fl k 0 λ_ m=>.iq [j,m] λn=>.AJ n (.rr [ff,g d 1]) (.ea 3 [p,g d 1] λo=>.fl o 1 λ_ s=>.ea 3 [q,g d 1] λu=>.fl u 1 λ_ w=>.op (.str .neq) [s,w] λy=>.AJ y (.rr [ff,g d 1]) (.ea 3 [p,g d 1] λz=>.fl z 2 λ_ a0=>.ln [a0] λa1=>.ea 3 [q,g d 1] λa2=>.fl a2 2 λ_ a5=>.ln [a5] λa7=>.iq [a1,a7] λa8=>.AJ a8 (.rr [ff,g d 1]) (.loop 9 [g d 0,I 0] (λb0=>.ea 3 [p,g d 1] λb1=>.fl b1 2 λ_ b2=>.ln [b2] λb3=>.il [g b0 1,b3] λb4=>.AJ b4 (.ea 3 [p,g d 1] λb5=>.fl b5 2 λ_ b6=>.ea 3 [b6,g b0 1] λb7=>.load (some 3) b7 λb8=>.ea 3 [q,g d 1] λb9=>.fl b9 2 λ_ c0=>.ea 3 [c0,g b0 1] λc1=>.load (some 3) c1 λc2=>.op (.geq true [.i,.s,.s]) [b8,c2] λc4=>.AJ c4 (.rr [ff,g b0 1]) (.ia [g b0 1,I 1] λc5=>.rn [g b0 0,c5])) (.rx 2 [g b0 0,g b0 1])) (λx c6=>match x with| .normal=>.fail| .exit i=>if i=2 then .ia [g d 1,I 1] λc7=>.rn [g c6 0,c7] else if i=1 then .ia [g d 1,I 1] λc8=>.rn [g c6 0,c8] else .ret (.exit i) [g c6 0,g d 1]| .ret=>.rr [g c6 0,g d 1]))))) (.rx 0 [g d 0,g d 1])) (lx 0 (λc9=>.rr [tt]) λc9=>.rr [g c9 0]))
theorem aAj:DU cx 55 t55:=λ_ _=>by kernel_rfl
def S4(p q:Aa):IT:=
 .cells 9 q λa=>.ie [g a 0,I 1] λb=>.AJ b (.call 57 [a9 a] λc=>.call 123 [p,c] λd=>.op (.Bs [I 0,I 0,S [],ff] [(0,1)]) [d] λe=>.cells 4 e λf=>.rr [a4 f]) (.ie [g a 0,I 2] λh=>.AJ h (.call 57 [a9 a] λj=>.call 124 [p,j,g a 3] λk=>.op (.Bs [I 0,I 0,S [],ff] [(0,1)]) [k] λm=>.cells 4 m λn=>.rr [a4 n]) (.ie [g a 0,I 3] λo=>.AJ o (.call 57 [a9 a] λs=>.call 125 [p,s] λu=>.op (.Bs [I 0,I 0,S [],ff] [(0,1)]) [u] λw=>.cells 4 w λy=>.rr [a4 y]) (.ie [g a 0,I 4] λz=>.AJ z (.call 126 [p,g a 7] λ_=>.op (.Bs [I 0,I 0,S [],ff] []) [] λa0=>.cells 4 a0 λa1=>.rr [a4 a1]) (.ie [g a 0,I 5] λa2=>.AJ a2 (.call 127 [p,g a 6,g a 4] λ_=>.op (.Bs [I 0,I 0,S [],ff] []) [] λa5=>.cells 4 a5 λa7=>.rr [a4 a7]) (.ie [g a 0,I 6] λa8=>.AJ a8 (.call 57 [a9 a] λb0=>.call 128 [p,b0,g a 8] λ_=>.op (.Bs [I 0,I 0,S [],ff] []) [] λb1=>.cells 4 b1 λb2=>.rr [a4 b2]) (.ie [g a 0,I 7] λb3=>.AJ b3 (.call 129 [p] λ_=>.op (.Bs [I 0,I 0,S [],ff] []) [] λb4=>.cells 4 b4 λb5=>.rr [a4 b5]) (.ie [g a 0,I 8] λb6=>.AJ b6 (.call 130 [p] λ_=>.op (.Bs [I 0,I 0,S [],ff] []) [] λb7=>.cells 4 b7 λb8=>.rr [a4 b8]) (.ie [g a 0,I 9] λb9=>.AJ b9 (.call 131 [p,g a 1] λ_=>.op (.Bs [I 0,I 0,S [],ff] []) [] λc1=>.cells 4 c1 λc2=>.rr [a4 c2]) (.ie [g a 0,I 10] λc3=>.AJ c3 (.call 132 [p,g a 1] λ_=>.op (.Bs [I 0,I 0,S [],ff] []) [] λc4=>.cells 4 c4 λc6=>.rr [a4 c6]) (.ie [g a 0,I 11] λc7=>.AJ c7 (.call 101 [p] λ_=>.op (.Bs [I 0,I 0,S [],ff] []) [] λc8=>.cells 4 c8 λc9=>.rr [a4 c9]) (.ie [g a 0,I 12] λd0=>.AJ d0 (.call 57 [a9 a] λd1=>.call 133 [p,d1,g a 4] λ_=>.op (.Bs [I 0,I 0,S [],ff] []) [] λd2=>.cells 4 d2 λd3=>.rr [a4 d3]) (.ie [g a 0,I 13] λd4=>.AJ d4 (.call 134 [p] λ_=>.op (.Bs [I 0,I 0,S [],ff] []) [] λd5=>.cells 4 d5 λd6=>.rr [a4 d6]) (.ie [g a 0,I 14] λd7=>.AJ d7 (.call 135 [p] λ_=>.op (.Bs [I 0,I 0,S [],ff] []) [] λd8=>.cells 4 d8 λd9=>.rr [a4 d9]) (.ie [g a 0,I 15] λe0=>.AJ e0 (.fa p 15 λ_ e1=>.store 1 e1 (g a 5) (.op (.Bs [I 0,I 0,S [],ff] []) [] λe2=>.cells 4 e2 λe3=>.rr [a4 e3])) (.ie [g a 0,I 16] λe4=>.AJ e4 (.BW p 6 λ_ _ e5=>.op (.append 1 8) [.slnil,e5] λe6=>.op (.By 1) [g a 8] λe7=>.op (.append 1 8) [e6,e7] λe8=>.fa p 6 λ_ e9=>.store 1 e9 e8 (.op (.Bs [I 0,I 0,S [],ff] []) [] λf0=>.cells 4 f0 λf1=>.rr [a4 f1])) (.ie [g a 0,I 17] λf2=>.AJ f2 (.BW p 3 λ_ _ f3=>.op (.Bs [I 0,S [],.slnil] []) [] λf4=>.BW p 3 λ_ _ f5=>.ln [f5] λf6=>.call 136 [f3,f4,f6] λf7=>.fa p 3 λ_ f8=>.store 1 f8 f7 (.op (.Bs [I 0,I 0,S [],ff] []) [] λf9=>.cells 4 f9 λh0=>.rr [a4 h0])) (.ie [g a 0,I 18] λh1=>.AJ h1 (.call 137 [p] λh2=>.cells 4 h2 λh3=>.rr [a4 h3]) (.ie [g a 0,I 19] λh4=>.AJ h4 (.fa p 7 λ_ h5=>.store 1 h5 (g a 4) (.op (.Bs [I 0,I 0,S [],ff] []) [] λh6=>.cells 4 h6 λh7=>.rr [a4 h7])) (.ie [g a 0,I 20] λh8=>.AJ h8 (.fa p 4 λ_ h9=>.store 1 h9 (g a 8) (.op (.Bs [I 0,I 0,S [],ff] []) [] λj0=>.cells 4 j0 λj1=>.rr [a4 j1])) (.ie [g a 0,I 21] λj2=>.AJ j2 (.BW p 3 λ_ _ j3=>.call 138 [j3] λj4=>.fa p 3 λ_ j5=>.store 1 j5 j4 (.op (.Bs [I 0,I 0,S [],ff] []) [] λj6=>.cells 4 j6 λj7=>.rr [a4 j7])) (.ie [g a 0,I 22] λj8=>.AJ j8 (.BW p 2 λ_ _ j9=>.op (.By 1) [g a 1] λk0=>.call 139 [j9,k0] λk1=>.fa p 2 λ_ k2=>.store 1 k2 k1 (.op (.Bs [I 0,I 0,S [],ff] []) [] λk3=>.cells 4 k3 λk4=>.rr [a4 k4])) (.ie [g a 0,I 23] λk5=>.AJ k5 (.fa p 8 λ_ k6=>.store 1 k6 (g a 4) (.op (.Bs [I 0,I 0,S [],ff] []) [] λk7=>.cells 4 k7 λk8=>.rr [a4 k8])) (.ie [g a 0,I 24] λk9=>.AJ k9 (.call 57 [a9 a] λm0=>.call 140 [p,m0,g a 3,g a 4] λm1=>.cells 4 m1 λm2=>.rr [a4 m2]) (.op (.Bs [I 0,I 0,S [],ff] []) [] λm3=>.cells 4 m3 λm4=>.rr [a4 m4]))))))))))))))))))))))))
theorem E6:DU cx 56 S4:=λ_ _=>by kernel_rfl
def t57(p:Aa):IT:=
 .cells 9 p λa=>.op (.append 3 40) [.slnil,g a 2] λb=>.op (.Bs [I 0,S [],ff,S [],ff,S [],ff,ff,.slnil,ff,S [],.int .i32 0] [(0,1),(1,1),(8,1)]) [I 2,g a 1,b] λc=>.cells 12 c λd=>.rr [tX d]
theorem aAk:GQ cx 57 t57:=λ_=>by kernel_rfl
def t58(p q r:Aa):IT:=
 .cells 12 q λa=>.call 52 [p] λb=>.nt [b] λc=>.AJ c (.rr [I 0]) (.call 141 [p,.func (.func 46) [p] [],tX a,r] λd=>.rr [d])
theorem yT:LU cx 58 t58:=λ_ _ _=>by kernel_rfl
def t59(p q r:Aa):IT:=
 .call 52 [p] λa=>.nt [a] λb=>.AJ b (.rr [.tuple []]) (.ie [r,I 0] λc=>.Di 100014 (.AJ c (.call 85 [p,I 0] λd=>.op (.ext 0) [d] λe=>.op (.ext 1) [d] λf=>.rn [e,f]) (.rn [r,I 0])) (nx (λh=>.call 86 [p,g h 0] λj=>.cells 13 j λk=>.Di 200005 (.iq [g k 0,I 1] λm=>.AJ m (.iq [g k 0,I 2] λn=>.AJ n (.iq [g k 0,I 4] λo=>.rn [o]) (.rn [ff])) (.rn [ff])) (nx (λs=>.AJ (g s 0) (.rr [.tuple []]) (.BW p 0 λ_ _ u=>.call 14 [u,g k 3,q] λw=>.op (.ext 0) [w] λy=>.op (.ext 1) [w] λz=>.ie [z,I 0] λa0=>.Di 100048 (.AJ a0 (.call 47 [p,y,g h 0,g h 1] λ_=>.rn []) (.rn [])) (nx (λa1=>.rr [.tuple []]) λa1=>.rr [.tuple []]))) λs=>.rr [.tuple []])) λh=>.rr [.tuple []]))
theorem yU:LU cx 59 t59:=λ_ _ _=>by kernel_rfl
def t60(p q r:Aa):IT:=
 .cells 12 q λa=>.call 52 [p] λb=>.AJ b (.call 29 [p,tX a] λ_=>.BW p 4 λ_ _ c=>.fa p 18 λ_ d=>.store 1 d r (.fa p 5 λ_ e=>.store 1 e c (.fa p 4 λ_ f=>.store 1 f (I 8) (.rr [.tuple []])))) (.rr [.tuple []])
theorem aAl:LU cx 60 t60:=λ_ _ _=>by kernel_rfl
def t61(p:Aa):IT:=
 .call 52 [p] λa=>.AJ a (.fa p 2 λ_ b=>.op (.By 1) [S [112]] λc=>.call 142 [b,I 3,c] λd=>.AJ d (.fa p 2 λ_ e=>.call 143 [e,S [112]] λ_=>.fa p 2 λ_ f=>.op (.By 1) [S [112]] λh=>.call 70 [f,h] λ_=>.rr [.tuple []]) (.rr [.tuple []])) (.rr [.tuple []])
theorem yV:GQ cx 61 t61:=λ_=>by kernel_rfl
def t62(p:Aa):IT:=
 .call 52 [p] λa=>.nt [a] λb=>.AJ b (.Hy 3 p (.rr [.tuple []])) (.fa p 3 λ_ c=>.fl c 0 λ_ d=>.ln [d] λe=>.loop 2 [e] (λf=>.ig [g f 0,I 0] λh=>.AJ h (.fa p 3 λ_ j=>.fl j 0 λ_ k=>.ib [g f 0,I 1] λm=>.ea 3 [k,m] λn=>.fl n 0 λ_ o=>.iq [o,I 0] λs=>.AJ s (.fa p 2 λ_ u=>.fa p 3 λ_ w=>.fl w 0 λ_ y=>.ib [g f 0,I 1] λz=>.ea 3 [y,z] λa0=>.fl a0 0 λ_ a1=>.call 144 [u,a1] λa2=>.il [a2,I 0] λa5=>.AJ a5 (.ib [g f 0,I 1] λa7=>.rn [a7]) (.rx 0 [g f 0])) (.rx 0 [g f 0])) (.rx 0 [g f 0])) (lx 0 (λa8=>.fa p 3 λ_ b0=>.fl b0 0 λ_ b1=>.call 145 [b1] λb2=>.fa p 3 λ_ b3=>.op (.Ec 0) [b3] λb4=>.store 1 b4 b2 (.loop 5 [g a8 0] (λb5=>.fa p 3 λ_ b6=>.fl b6 0 λ_ b7=>.ln [b7] λb8=>.il [g b5 0,b8] λb9=>.AJ b9 (.fa p 3 λ_ c0=>.fl c0 0 λc1 c2=>.fa p 3 λ_ c3=>.fl c3 0 λ_ c4=>.ea 3 [c4,g b5 0] λc5=>.load (some 3) c5 λc6=>.call 146 [c6] λc8=>.ld c1 λc9=>.same c2 c9 (.call 29 [p,c8] λd0=>.ld c1 λd1=>.same c2 d1 (.ea 3 [c2,g b5 0] λd2=>.op (.Ec 0) [d2] λd3=>.store 1 d3 d0 (.ia [g b5 0,I 1] λd4=>.rn [d4])))) (.rx 2 [g b5 0])) (lx 2 (λd5=>.Hy 3 p (.rr [.tuple []])) λd5=>.Hy 3 p (.rr [.tuple []])))) λa8=>.Hy 3 p (.rr [.tuple []])))
theorem aAm:GQ cx 62 t62:=λ_=>by kernel_rfl
def t63(p q:Aa):IT:=
 .call 52 [p] λa=>.nt [a] λb=>.AJ b (.rr [.tuple []]) (.fa p 2 λ_ c=>.call 24 [c] λd=>.ib [d,I 1] λe=>.loop 2 [e] (λf=>.ih [g f 0,I 0] λh=>.AJ h (.fa p 2 λ_ j=>.call 22 [j,g f 0] λk=>.cells 4 k λm=>.op (.By 1) [q] λn=>.call 50 [a4 m,n] λo=>.AJ o (.fa p 2 λ_ s=>.call 143 [s,q] λ_=>.fa p 2 λ_ u=>.call 147 [u,g m 0] λ_=>.rr [g f 0]) (.Bk 117 [g m 1,g m 2] λw=>.AJ w (.rr [g f 0]) (.ib [g f 0,I 1] λy=>.rn [y]))) (.rx 0 [g f 0])) (lx 0 (λz=>.rr [.tuple []]) λz=>.rr [.tuple []]))
theorem yW:DU cx 63 t63:=λ_ _=>by kernel_rfl
def t64(p q r:Aa):IT:=
 .cells 12 q λa=>.call 52 [p] λb=>.nt [b] λc=>.AJ c (.rr [.tuple []]) (.call 86 [p,r] λd=>.op (.part 0 none) [d] λe=>.iq [e,I 4] λf=>.AJ f (.rr [.tuple []]) (.call 86 [p,r] λh=>.op (.part 6 none) [h] λj=>.ln [g a 8] λk=>.loop 4 [j,I 0] (λm=>.il [g m 1,k] λn=>.AJ n (.ea 3 [g a 8,g m 1] λo=>.load (some 3) o λs=>.cells 3 s λu=>.call 148 [g m 0,.func (.func 149) [] [.CB [g u 0,g u 1,g u 2]]] λw=>.nt [w] λy=>.AJ y (.fl (.CB [g u 0,g u 1,g u 2]) 1 λ_ z=>.fl (.CB [g u 0,g u 1,g u 2]) 2 λ_ a0=>.op (.Bs [I 0,S [],S []] [(1,1),(2,1)]) [z,a0] λa1=>.op (.By 3) [a1] λa2=>.Fs 3 40 (g m 0) a2 λa5=>.ia [g m 1,I 1] λa7=>.rn [a5,a7]) (.ia [g m 1,I 1] λa8=>.rn [g m 0,a8])) (.rx 0 [g m 0,g m 1])) (lx 0 (λb0=>.BW p 0 λ_ _ b1=>.call 150 [b1,r,g b0 0] λ_=>.rr [.tuple []]) λb0=>.rr [.tuple []])))
theorem yX:LU cx 64 t64:=λ_ _ _=>by kernel_rfl
def t65(p:Aa):IT:=
 .call 52 [p] λa=>.nt [a] λb=>.AJ b (.rr [.tuple []]) (.fa p 2 λ_ c=>.call 151 [c,S aSC] λd=>.il [d,I 0] λe=>.AJ e (.rr [.tuple []]) (.fa p 2 λ_ f=>.call 152 [f] λ_=>.fa p 2 λ_ h=>.op (.By 1) [S aSC] λj=>.call 70 [h,j] λ_=>.fa p 3 λ_ k=>.call 69 [k] λ_=>.BW p 6 λ_ _ m=>.ln [m] λn=>.ig [n,I 0] λo=>.AJ o (.BW p 6 λ_ _ s=>.ib [n,I 1] λu=>.op (.Hv 1 false false true) [s,u] λw=>.call 53 [w] λy=>.fa p 6 λ_ z=>.store 1 z y (.call 51 [p] λ_=>.rr [.tuple []])) (.call 51 [p] λ_=>.rr [.tuple []])))
theorem iT:GQ cx 65 t65:=λ_=>by kernel_rfl
def t66(p:Aa):IT:=
 .call 52 [p] λa=>.AJ a (.fa p 19 λ_ b=>.store 1 b tt (.rr [.tuple []])) (.rr [.tuple []])
theorem aAn:GQ cx 66 t66:=λ_=>by kernel_rfl
def t67(p:Aa):IT:=
 .op (.Tb true) [p,.ptr none] λa=>.AJ a (.BW p 0 λ_ _ b=>.op (.Bs [I 0,S [],.slnil] []) [] λc=>.BW p 0 λ_ _ d=>.ln [d] λe=>.call 153 [b,c,e] λf=>.fa p 0 λ_ h=>.store 1 h f (.rr [.tuple []])) (.rr [.tuple []])
theorem aAo:GQ cx 67 t67:=λ_=>by kernel_rfl
def t68(p:Aa):IT:=
 .call 24 [p] λa=>.il [a,I 2] λb=>.AJ b (.op (.Bs [I 0,I 0,S [],ff] []) [] λc=>.cells 4 c λd=>.rr [a4 d]) (.call 91 [p] λe=>.cells 4 e λf=>.BW p 0 λ_ _ h=>.BW p 0 λ_ _ j=>.ln [j] λk=>.ib [k,I 1] λm=>.op (.Hv 4 false false true) [h,m] λn=>.fa p 0 λ_ o=>.store 1 o n (.cells 4 (a4 f) λs=>.rr [a4 s]))
theorem YU:GQ cx 68 t68:=λ_=>by kernel_rfl
end Go.Am
