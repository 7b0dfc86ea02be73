/- Lemmas -/
import Derived.Test.YtdejbjapknkdnaaGreatDoorV9
import Derived.Test.YtdejbjapknkdnaaGreatDoorV17
set_option linter.all false
namespace Go.Am
open Go
def t3(p:Aa):IT:=
 .call 7 [p,I 60] λa=>.nt [a] λb=>.AJ b (.AQ 8 [] λc=>.rr [c]) (.call 9 [p] λd=>.op (.ext 0) [d] λe=>.op (.ext 1) [d] λ_=>.op (.Ud true) [e,.ptr none] λf=>.AJ f (.AQ 8 [] λh=>.rr [h]) (.rr [ff]))
def aH2:FW cx 3 t3:=λ_=>by kernel_rfl
def t4(p:Aa):IT:=
 .call 7 [p,I 60] λa=>.nt [a] λb=>.AJ b (.AQ 8 [] λc=>.rr [c]) (.call 9 [p] λd=>.op (.ext 0) [d] λe=>.op (.ext 1) [d] λf=>.op (.Ud false) [e,.ptr none] λh=>.AJ h (.rr [ff]) (.nt [f] λj=>.AJ j (.AQ 8 [] λk=>.rr [k]) (.loop 10 [ff,ff,I 0] (λm=>.fa e 2 λ_ n=>.call 10 [n] λo=>.il [g m 2,o] λs=>.AJ s (.fa e 2 λ_ u=>.call 12 [u,g m 2] λw=>.call 11 [w] λy=>.cells 4 y λz=>.call 13 [a4 z,I 3] λa0=>.AJ a0 (.op (.Cl 1) [S [112]] λa1=>.call 14 [a4 z,a1] λa2=>.AJ a2 (.ia [g m 2,I 1] λa5=>.rn [g m 0,tt,a5]) (.ia [g m 2,I 1] λa7=>.rn [g m 0,ff,a7])) (.op (.Cl 1) [S [112]] λa8=>.call 14 [a4 z,a8] λb0=>.AJ b0 (.AJ (g m 1) (.rr [ff,g m 1,g m 2]) (.ia [g m 2,I 1] λb1=>.rn [g m 0,tt,b1])) (.ia [g m 2,I 1] λb2=>.rn [g m 0,g m 1,b2]))) (.rx 0 [g m 0,g m 1,g m 2])) (lx 0 (λb3=>.AQ 8 [] λb4=>.rr [b4]) λb3=>.rr [g b3 0]))))
def aH3:FW cx 4 t4:=λ_=>by kernel_rfl
def t5(p q r:Aa):IT:=
 .call 7 [p,I 60] λa=>.nt [a] λb=>.AJ b (.AQ 8 [] λc=>.rr [c]) (.il [q,I 0] λd=>.AJ d (.AQ 8 [] λe=>.rr [e]) (.ig [q,I 3] λf=>.AJ f (.AQ 8 [] λh=>.rr [h]) (.ln [r] λj=>.ig [j,I 100] λk=>.AJ k (.AQ 8 [] λm=>.rr [m]) (.call 9 [p] λn=>.op (.ext 0) [n] λo=>.op (.ext 1) [n] λs=>.op (.Ud false) [o,.ptr none] λu=>.AJ u (.rr [ff]) (.nt [s] λw=>.AJ w (.AQ 8 [] λy=>.rr [y]) (.BZ o 4 λ_ _ z=>.AQ 15 [z] λa0=>.nt [a0] λa1=>.AJ a1 (.AQ 8 [] λa2=>.rr [a2]) (.op (.Cl 1) [S aW4,S aXV,S aXg,S aXv] λa5=>.ea 1 [a5,q] λa7=>.ld a7 λa8=>.call 16 [o] λb0=>.cells 13 b0 λb1=>.call 18 [a8] λb2=>.call 17 [o,b2] λ_=>.BZ o 4 λ_ _ b3=>.iq [b3,I 8] λb4=>.AJ b4 (.rr [ff]) (.BZ o 18 λ_ _ b5=>.ie [b5,I 0] λb6=>.AJ b6 (.rr [ff]) (.loop 14 [I 0] (λb7=>.ln [r] λb8=>.il [g b7 0,b8] λb9=>.AJ b9 (.ea 1 [r,g b7 0] λc0=>.ld c0 λc1=>.call 19 [c1] λc2=>.call 17 [o,c2] λ_=>.ia [g b7 0,I 1] λc3=>.rn [c3]) (.rx 0 [g b7 0])) (lx 0 (λc4=>.call 20 [a8] λc5=>.call 17 [o,c5] λ_=>.call 16 [o] λc6=>.call 21 [c6,rF b1] λc7=>.AJ c7 (.BZ o 4 λ_ _ c8=>.ie [c8,g b1 0] λc9=>.AJ c9 (.AQ 8 [] λd0=>.rr [d0]) (.rr [ff])) (.rr [ff])) λc4=>.rr [ff]))))))))))
def aH4:RL cx 5 t5:=λ_ _ _=>by kernel_rfl
def t6(p q r:Aa):IT:=
 .call 7 [p,I 60] λa=>.nt [a] λb=>.AJ b (.AQ 8 [] λc=>.rr [c]) (.il [q,I 0] λd=>.AJ d (.AQ 8 [] λe=>.rr [e]) (.ig [q,I 2] λf=>.AJ f (.AQ 8 [] λh=>.rr [h]) (.call 22 [r] λj=>.nt [j] λk=>.AJ k (.AQ 8 [] λm=>.rr [m]) (.call 9 [p] λn=>.op (.ext 0) [n] λo=>.op (.ext 1) [n] λs=>.op (.Ud false) [o,.ptr none] λu=>.AJ u (.rr [ff]) (.nt [s] λw=>.AJ w (.AQ 8 [] λy=>.rr [y]) (.BZ o 4 λ_ _ z=>.AQ 15 [z] λa0=>.nt [a0] λa1=>.AJ a1 (.AQ 8 [] λa2=>.rr [a2]) (.call 16 [o] λa5=>.cells 13 a5 λa7=>.op (.Cl 1) [S aYD,S aYb,S aYh] λa8=>.ea 1 [a8,q] λb0=>.ld b0 λb1=>.call 18 [b1] λb2=>.cells 12 b2 λb3=>.op (.append 3 40) [.slnil,r] λb4=>.cells 1 b4 λb5=>.call 17 [o,.agg [g b3 0,g b3 1,g b3 2,g b3 3,g b3 4,g b3 5,g b3 6,g b3 7,g b5 0,g b3 9,g b3 10,g b3 11]] λ_=>.call 16 [o] λb6=>.call 21 [b6,rF a7] λb7=>.nt [b7] λb8=>.AJ b8 (.rr [ff]) (.BZ o 4 λ_ _ b9=>.iq [b9,g a7 0] λc0=>.AJ c0 (.rr [ff]) (.call 18 [S aWU] λc1=>.call 17 [o,c1] λ_=>.BZ o 4 λ_ _ c2=>.iq [c2,I 18] λc3=>.AJ c3 (.rr [ff]) (.BZ o 6 λ_ _ c4=>.ln [c4] λc5=>.ln [g a7 2] λc6=>.ia [c6,I 1] λc7=>.iq [c5,c7] λc8=>.AJ c8 (.rr [ff]) (.call 20 [S aWU] λc9=>.call 17 [o,c9] λ_=>.call 16 [o] λd0=>.cells 13 d0 λd1=>.call 21 [rF d1,rF a7] λd2=>.nt [d2] λd3=>.AJ d3 (.rr [ff]) (.call 23 [g d1 4,g a7 4] λd4=>.nt [d4] λd5=>.AJ d5 (.rr [ff]) (.ln [g d1 2] λd6=>.ln [g a7 2] λd7=>.iq [d6,d7] λd8=>.AJ d8 (.rr [ff]) (.loop 22 [ff,I 0] (λd9=>.ln [g d1 2] λe0=>.il [g d9 1,e0] λe1=>.AJ e1 (.ea 1 [g d1 2,g d9 1] λe2=>.ld e2 λe3=>.ea 1 [g a7 2,g d9 1] λe4=>.ld e4 λe5=>.iq [e3,e5] λe6=>.AJ e6 (.rr [ff,g d9 1]) (.ia [g d9 1,I 1] λe7=>.rn [g d9 0,e7])) (.rx 0 [g d9 0,g d9 1])) (lx 0 (λe8=>.AQ 8 [] λe9=>.rr [e9]) λe8=>.rr [g e8 0])))))))))))))))
def aH5:RL cx 6 t6:=λ_ _ _=>by kernel_rfl
def t7(p q:Aa):IT:=
 .loop 2 [ff,I 0] (λa=>.ln [p] λb=>.il [g a 1,b] λc=>.AJ c (.ik [g a 1,q] λd=>.AJ d (.ea 12 [p,g a 1] λe=>.load (some 12) e λf=>.call 24 [f] λh=>.nt [h] λj=>.AJ j (.rr [ff,g a 1]) (.ia [g a 1,I 1] λk=>.rn [g a 0,k])) (.rx 0 [g a 0,g a 1])) (.rx 0 [g a 0,g a 1])) (lx 0 (λm=>.ln [p] λn=>.ik [n,q] λo=>.rr [o]) λm=>.rr [g m 0])
def aH6:Ff cx 7 t7:=λ_ _=>by kernel_rfl
def t9(p:Aa):IT:=
 .call 26 [] λa=>.op (.Ud false) [a,.ptr none] λb=>.AJ b (.rr [.tuple [.ptr none,ff]]) (.loop 5 [.ptr none,ff,I 0] (λc=>.ln [p] λd=>.il [g c 2,d] λe=>.AJ e (.ea 12 [p,g c 2] λf=>.load (some 12) f λh=>.call 27 [a,h] λj=>.nt [j] λk=>.AJ k (.rr [.ptr none,ff,g c 2]) (.BZ a 4 λ_ _ m=>.AQ 28 [m] λn=>.nt [n] λo=>.AJ o (.rr [a,ff,g c 2]) (.ia [g c 2,I 1] λs=>.rn [g c 0,g c 1,s]))) (.rx 0 [g c 0,g c 1,g c 2])) (lx 0 (λu=>.rr [.tuple [a,tt]]) λu=>.rr [.tuple [g u 0,g u 1]]))
def aBp:FW cx 9 t9:=λ_=>by kernel_rfl
def t10(p:Aa):IT:=
 .op (.Ud false) [p,.ptr none] λa=>.AJ a (.rr [I 0]) (.BZ p 0 λ_ _ b=>.ln [b] λc=>.rr [c])
def xt:FW cx 10 t10:=λ_=>by kernel_rfl
def t11(p:Aa):IT:=
 .cells 4 p λa=>.op (.CT [I 0,I 0,S [],ff] [(0,1),(1,1),(2,1),(3,1)]) [g a 0,g a 1,g a 2,g a 3] λb=>.cells 4 b λc=>.rr [a4 c]
def aDf:FW cx 11 t11:=λ_=>by kernel_rfl
def t12(p q:Aa):IT:=
 .il [q,I 0] λa=>.AJ a (.op (.CT [I 0,I 0,S [],ff] []) [] λb=>.cells 4 b λc=>.rr [a4 c]) (.call 10 [p] λd=>.ih [q,d] λe=>.AJ e (.op (.CT [I 0,I 0,S [],ff] []) [] λf=>.cells 4 f λh=>.rr [a4 h]) (.BZ p 0 λ_ _ j=>.ea 4 [j,q] λk=>.load (some 4) k λm=>.cells 4 m λn=>.rr [a4 n]))
def xw:Ff cx 12 t12:=λ_ _=>by kernel_rfl
def t13(p q:Aa):IT:=
 .cells 4 p λa=>.ie [g a 1,I 1] λb=>.ie [q,I 4] λc=>.AJ c (.AJ b (.AQ 29 [S aXy,g a 2] λd=>.rr [d]) (.rr [ff])) (.ie [q,I 5] λe=>.AJ e (.nt [b] λf=>.AJ f (.rr [tt]) (.AQ 29 [S aXe,g a 2] λh=>.nt [h] λj=>.rr [j])) (.AJ b (.ie [q,I 2] λk=>.AJ k (.AQ 29 [S aYP,g a 2] λm=>.AJ m (.rr [tt]) (.AJ b (.ie [q,I 3] λn=>.AJ n (.se [g a 2,S aWV] λo=>.AJ o (.rr [tt]) (.AJ b (.AQ 29 [S aWP,g a 2] λs=>.rr [s]) (.AQ 30 [g a 1,g a 2] λu=>.rr [u]))) (.AJ b (.AQ 29 [S aWP,g a 2] λw=>.rr [w]) (.AQ 30 [g a 1,g a 2] λy=>.rr [y]))) (.AJ b (.AQ 29 [S aWP,g a 2] λz=>.rr [z]) (.AQ 30 [g a 1,g a 2] λa0=>.rr [a0])))) (.AJ b (.ie [q,I 3] λa1=>.AJ a1 (.se [g a 2,S aWV] λa2=>.AJ a2 (.rr [tt]) (.AJ b (.AQ 29 [S aWP,g a 2] λa5=>.rr [a5]) (.AQ 30 [g a 1,g a 2] λa7=>.rr [a7]))) (.AJ b (.AQ 29 [S aWP,g a 2] λa8=>.rr [a8]) (.AQ 30 [g a 1,g a 2] λb0=>.rr [b0]))) (.AJ b (.AQ 29 [S aWP,g a 2] λb1=>.rr [b1]) (.AQ 30 [g a 1,g a 2] λb2=>.rr [b2])))) (.AJ b (.ie [q,I 3] λb3=>.AJ b3 (.se [g a 2,S aWV] λb4=>.AJ b4 (.rr [tt]) (.AJ b (.AQ 29 [S aWP,g a 2] λb5=>.rr [b5]) (.AQ 30 [g a 1,g a 2] λb6=>.rr [b6]))) (.AJ b (.AQ 29 [S aWP,g a 2] λb7=>.rr [b7]) (.AQ 30 [g a 1,g a 2] λb8=>.rr [b8]))) (.AJ b (.AQ 29 [S aWP,g a 2] λb9=>.rr [b9]) (.AQ 30 [g a 1,g a 2] λc1=>.rr [c1])))))
def aDg:Ff cx 13 t13:=λ_ _=>by kernel_rfl
def t14(p q:Aa):IT:=
 .cells 4 p λa=>.iq [g a 1,I 1] λb=>.AJ b (.rr [ff]) (.loop 4 [ff,I 0] (λc=>.ln [q] λd=>.il [g c 1,d] λe=>.AJ e (.ea 1 [q,g c 1] λf=>.ld f λh=>.se [h,g a 2] λj=>.AJ j (.rr [tt,g c 1]) (.ia [g c 1,I 1] λk=>.rn [g c 0,k])) (.rx 0 [g c 0,g c 1])) (lx 0 (λm=>.rr [ff]) λm=>.rr [g m 0]))
def aDh:Ff cx 14 t14:=λ_ _=>by kernel_rfl
def t15(p:Aa):IT:=
 .ie [p,I 4] λa=>.AJ a (.rr [tt]) (.ie [p,I 6] λb=>.AJ b (.rr [tt]) (.ie [p,I 7] λc=>.AJ c (.rr [tt]) (.ie [p,I 18] λd=>.rr [d])))
def aDi:FW cx 15 t15:=λ_=>by kernel_rfl
def t16(p:Aa):IT:=
 .call 31 [p] λa=>.nt [a] λb=>.AJ b (.op (.CT [I 0,I 0,.slnil,.slnil,.slnil,I 0,I 0,ff,ff,S [],ff,I 0,ff] []) [] λc=>.cells 13 c λd=>.rr [rF d]) (.BZ p 4 λ_ e f=>.BZ p 5 λ_ h j=>.BZ p 6 λ_ _ k=>.BZ p 7 λ_ m n=>.BZ p 8 λ_ o s=>.BZ p 14 λ_ u w=>.BZ p 15 λ_ y z=>.BZ p 16 λ_ a0 a1=>.BZ p 17 λ_ a2 a5=>.BZ p 18 λ_ a7 a8=>.BZ p 19 λ_ b0 b1=>.call 32 [k] λb2=>.ld b0 λb3=>.same b1 b3 (.ld a7 λb4=>.same a8 b4 (.ld a2 λb5=>.same a5 b5 (.ld a0 λb6=>.same a1 b6 (.ld y λb7=>.same z b7 (.ld u λb8=>.same w b8 (.ld o λb9=>.same s b9 (.ld m λc0=>.same n c0 (.ld h λc1=>.same j c1 (.ld e λc2=>.same f c2 (.op (.CT [I 0,I 0,.slnil,.slnil,.slnil,I 0,I 0,ff,ff,S [],ff,I 0,ff] [(0,1),(1,1),(2,1),(5,1),(6,1),(7,1),(8,1),(9,1),(10,1),(11,1),(12,1)]) [f,j,b2,n,s,w,z,a1,a5,a8,b1] λc4=>.cells 13 c4 λc5=>.fa p 2 λ_ c6=>.fl c6 0 λ_ c7=>.ln [c7] λc8=>.loop 5 [rF c5,I 0] (λc9=>.cells 13 (g c9 0) λd0=>.il [g c9 1,c8] λd1=>.AJ d1 (.ea 4 [c7,g c9 1] λd2=>.load (some 4) d2 λd3=>.cells 4 d3 λd4=>.op (.Cl 1) [g d4 0] λd5=>.F8 1 8 (g d0 3) d5 λd6=>.cells 1 d6 λd7=>.ia [g c9 1,I 1] λd8=>.rn [.agg [g d0 0,g d0 1,g d0 2,g d7 0,g d0 4,g d0 5,g d0 6,g d0 7,g d0 8,g d0 9,g d0 10,g d0 11,g d0 12],d8]) (.rx 0 [rF d0,g c9 1])) (λx d9=>.cells 13 (g d9 0) λe0=>match x with| .normal=>.fail| .exit i=>if i=0 then .fa p 3 λ_ e1=>.fl e1 0 λ_ e2=>.ln [e2] λe3=>.make 3 48 [I 0,S [],.slnil] e3 e3 λe4=>.cells 1 e4 λe5=>.fa p 3 λ_ e6=>.fl e6 0 λ_ e7=>.mem (.copy 3) [g e5 0,e7] λ_=>.ln [g e5 0] λe8=>.loop 12 [I 0] (λe9=>.il [g e9 0,e8] λf0=>.AJ f0 (.ea 3 [g e5 0,g e9 0] λf1=>.fl f1 2 λ_ f2=>.call 33 [f2] λf3=>.ea 3 [g e5 0,g e9 0] λf4=>.op (.FN 2) [f4] λf5=>.store 1 f5 f3 (.ia [g e9 0,I 1] λf6=>.rn [f6])) (.rx 2 [g e9 0])) (lx 2 (λf7=>.cells 13 (.agg [g e0 0,g e0 1,g e0 2,g e0 3,g e5 0,g e0 5,g e0 6,g e0 7,g e0 8,g e0 9,g e0 10,g e0 11,g e0 12]) λf8=>.rr [rF f8]) λf7=>.rr [.agg [I 0,I 0,.slnil,.slnil,.slnil,I 0,I 0,ff,ff,S [],ff,I 0,ff]]) else .fail| .ret=>.rr [.agg [I 0,I 0,.slnil,.slnil,.slnil,I 0,I 0,ff,ff,S [],ff,I 0,ff]]))))))))))))
def aDj:FW cx 16 t16:=λ_=>by kernel_rfl
def t17(p q:Aa):IT:=
 .cells 12 q λa=>.call 34 [p,Gf a] λb=>.nt [b] λc=>.AJ c (.rr [ff]) (.BZ p 4 λ_ d e=>.call 35 [] λf=>.ld d λh=>.same e h (.mem (.ij .nilFunc true) [f,e] λj=>.op (.ext 0) [j] λk=>.op (.ext 1) [j] λm=>.AJ m (.El k [p,Gf a] λn=>.rr [n]) (.rr [ff])))
def fG:Ff cx 17 t17:=λ_ _=>by kernel_rfl
def t18(p:Aa):IT:=
 .op (.CT [I 0,S [],ff,S [],ff,S [],ff,ff,.slnil,ff,S [],.int .i32 0] [(0,1),(1,1)]) [I 2,p] λa=>.cells 12 a λb=>.rr [Gf b]
def xy:FW cx 18 t18:=λ_=>by kernel_rfl
def t19(p:Aa):IT:=
 .op (.CT [I 0,S [],ff,S [],ff,S [],ff,ff,.slnil,ff,S [],.int .i32 0] [(0,1),(11,1)]) [I 5,p] λa=>.cells 12 a λb=>.rr [Gf b]
def xz:FW cx 19 t19:=λ_=>by kernel_rfl
def t20(p:Aa):IT:=
 .op (.CT [I 0,S [],ff,S [],ff,S [],ff,ff,.slnil,ff,S [],.int .i32 0] [(0,1),(1,1)]) [I 3,p] λa=>.cells 12 a λb=>.rr [Gf b]
def x_:FW cx 20 t20:=λ_=>by kernel_rfl
def t21(p q:Aa):IT:=
 .cells 13 p λa=>.cells 13 q λb=>.call 36 [g a 3,g b 3] λc=>.rr [c]
def aDk:Ff cx 21 t21:=λ_ _=>by kernel_rfl
def t22(p:Aa):IT:=
 .loop 2 [ff,I 0] (λa=>.ln [p] λb=>.il [g a 1,b] λc=>.AJ c (.ik [g a 1,I 20] λd=>.AJ d (.ea 3 [p,g a 1] λe=>.fl e 1 λ_ f=>.lt [f] λh=>.ig [h,I 400] λj=>.AJ j (.rr [ff,g a 1]) (.ea 3 [p,g a 1] λk=>.fl k 2 λ_ m=>.lt [m] λn=>.ig [n,I 400] λo=>.AJ o (.rr [ff,g a 1]) (.ia [g a 1,I 1] λs=>.rn [g a 0,s]))) (.rx 0 [g a 0,g a 1])) (.rx 0 [g a 0,g a 1])) (lx 0 (λu=>.ln [p] λw=>.ik [w,I 20] λy=>.rr [y]) λu=>.rr [g u 0])
def aDl:FW cx 22 t22:=λ_=>by kernel_rfl
def t23(p q:Aa):IT:=
 .ln [p] λa=>.ln [q] λb=>.iq [a,b] λc=>.AJ c (.rr [ff]) (.loop 4 [ff,I 0] (λd=>.ln [p] λe=>.il [g d 1,e] λf=>.AJ f (.ea 3 [p,g d 1] λh=>.fl h 0 λ_ j=>.ea 3 [q,g d 1] λk=>.fl k 0 λ_ m=>.iq [j,m] λn=>.AJ n (.rr [ff,g d 1]) (.ea 3 [p,g d 1] λo=>.fl o 1 λ_ s=>.ea 3 [q,g d 1] λu=>.fl u 1 λ_ w=>.op (.str .neq) [s,w] λy=>.AJ y (.rr [ff,g d 1]) (.ea 3 [p,g d 1] λz=>.fl z 2 λ_ a0=>.ln [a0] λa1=>.ea 3 [q,g d 1] λa2=>.fl a2 2 λ_ a5=>.ln [a5] λa7=>.iq [a1,a7] λa8=>.AJ a8 (.rr [ff,g d 1]) (.loop 9 [g d 0,I 0] (λb0=>.ea 3 [p,g d 1] λb1=>.fl b1 2 λ_ b2=>.ln [b2] λb3=>.il [g b0 1,b3] λb4=>.AJ b4 (.ea 3 [p,g d 1] λb5=>.fl b5 2 λ_ b6=>.ea 3 [b6,g b0 1] λb7=>.load (some 3) b7 λb8=>.ea 3 [q,g d 1] λb9=>.fl b9 2 λ_ c0=>.ea 3 [c0,g b0 1] λc1=>.load (some 3) c1 λc2=>.op (.geq true [.i,.s,.s]) [b8,c2] λc4=>.AJ c4 (.rr [ff,g b0 1]) (.ia [g b0 1,I 1] λc5=>.rn [g b0 0,c5])) (.rx 2 [g b0 0,g b0 1])) (λx c6=>match x with| .normal=>.fail| .exit i=>if i=2 then .ia [g d 1,I 1] λc7=>.rn [g c6 0,c7] else if i=1 then .ia [g d 1,I 1] λc8=>.rn [g c6 0,c8] else .ret (.exit i) [g c6 0,g d 1]| .ret=>.rr [g c6 0,g d 1]))))) (.rx 0 [g d 0,g d 1])) (lx 0 (λc9=>.rr [tt]) λc9=>.rr [g c9 0]))
def aDm:Ff cx 23 t23:=λ_ _=>by kernel_rfl
def t24(p:Aa):IT:=
 .cells 12 p λa=>.lt [g a 1] λb=>.ik [b,I 60] λc=>.AJ c (.lt [g a 3] λd=>.ik [d,I 100] λe=>.AJ e (.lt [g a 5] λf=>.ik [f,I 100] λh=>.AJ h (.lt [g a 10] λj=>.ik [j,I 200] λk=>.AJ k (.call 22 [g a 8] λm=>.rr [m]) (.rr [ff])) (.rr [ff])) (.rr [ff])) (.rr [ff])
def aDn:FW cx 24 t24:=λ_=>by kernel_rfl
def t25(p q:Aa):IT:=
 .call 9 [p] λa=>.op (.ext 0) [a] λb=>.op (.ext 1) [a] λ_=>.op (.Ud false) [b,.ptr none] λc=>.AJ c (.rr [S []]) (.BZ b 0 λ_ _ d=>.call 37 [d,q] λe=>.rr [e])
def aDo:Ff cx 25 t25:=λ_ _=>by kernel_rfl
def t26:IT:=
 .call 38 [] λa=>.call 40 [a,ff] λb=>.call 39 [a,b] λc=>.rr [c]
def ya:B7 cx 26 []=t26:=by kernel_rfl
def t27(p q:Aa):IT:=
 .cells 12 q λa=>.BZ p 6 λ_ _ b=>.ln [b] λc=>.ia [I 9,c] λd=>.loop 3 [ff,I 0] (λe=>.il [g e 1,d] λf=>.AJ f (.BZ p 4 λ_ _ h=>.AQ 28 [h] λj=>.nt [j] λk=>.AJ k (.rr [tt,g e 1]) (.call 41 [Gf a] λm=>.call 17 [p,m] λn=>.nt [n] λo=>.AJ o (.rr [tt,g e 1]) (.ia [g e 1,I 1] λs=>.rn [g e 0,s]))) (.rx 0 [g e 0,g e 1])) (lx 0 (λu=>.BZ p 4 λ_ _ w=>.AQ 28 [w] λy=>.nt [y] λz=>.rr [z]) λu=>.rr [g u 0])
def yb:Ff cx 27 t27:=λ_ _=>by kernel_rfl
def t28(p:Aa):IT:=
 .ih [p,I 1] λa=>.AJ a (.ik [p,I 8] λb=>.AJ b (.rr [tt]) (.ie [p,I 18] λc=>.rr [c])) (.ie [p,I 18] λd=>.rr [d])
def yc:FW cx 28 t28:=λ_=>by kernel_rfl
def t29(p q:Aa):IT:=
 .se [q,S []] λa=>.AJ a (.rr [ff]) (.AQ 42 [q,.int .u8 32] λb=>.AJ b (.rr [ff]) (.loop 5 [ff,I 0,I 0] (λc=>.lt [p] λd=>.ik [g c 2,d] λe=>.AJ e (.lt [p] λf=>.ie [g c 2,f] λh=>.AJ h (.op (.PQ 0 true true true) [p,g c 1,g c 2] λj=>.se [j,q] λk=>.AJ k (.rr [tt,g c 1,g c 2]) (.ia [g c 2,I 1] λm=>.ia [g c 2,I 1] λn=>.rn [g c 0,m,n])) (.op .SN [p,g c 2] λo=>.ie [o,.int .u8 32] λs=>.AJ s (.op (.PQ 0 true true true) [p,g c 1,g c 2] λu=>.se [u,q] λw=>.AJ w (.rr [tt,g c 1,g c 2]) (.ia [g c 2,I 1] λy=>.ia [g c 2,I 1] λz=>.rn [g c 0,y,z])) (.ia [g c 2,I 1] λa0=>.rn [g c 0,g c 1,a0]))) (.rx 0 [g c 0,g c 1,g c 2])) (lx 0 (λa1=>.rr [ff]) λa1=>.rr [g a1 0])))
def aDp:Ff cx 29 t29:=λ_ _=>by kernel_rfl
def t30(p q:Aa):IT:=
 .ie [p,I 1] λa=>.AJ a (.AQ 29 [S aWN,q] λb=>.rr [b]) (.ie [p,I 3] λc=>.AJ c (.AQ 29 [S aXD,q] λd=>.AJ d (.rr [tt]) (.se [q,S aW5] λe=>.rr [e])) (.ie [p,I 2] λf=>.AJ f (.AQ 29 [S aXj,q] λh=>.rr [h]) (.rr [ff])))
def aDq:Ff cx 30 t30:=λ_ _=>by kernel_rfl
def t31(p:Aa):IT:=
 .op (.Ud true) [p,.ptr none] λa=>.AJ a (.BZ p 0 λ_ _ b=>.op (.Ud true) [b,.ptr none] λc=>.rr [c]) (.rr [ff])
def yd:FW cx 31 t31:=λ_=>by kernel_rfl
def t32(p:Aa):IT:=
 .op (.FM false .sl) [p,.slnil] λa=>.AJ a (.rr [.slnil]) (.op (.Cl 1) [] λb=>.op (.append 1 8) [b,p] λc=>.rr [c])
def sH:FW cx 32 t32:=λ_=>by kernel_rfl
def t33(p:Aa):IT:=
 .op (.FM false .sl) [p,.slnil] λa=>.AJ a (.rr [.slnil]) (.op (.Cl 3) [] λb=>.Gn 3 40 b p λc=>.rr [c])
def sI:FW cx 33 t33:=λ_=>by kernel_rfl
def t34(p q:Aa):IT:=
 .cells 12 q λa=>.op (.Ud true) [p,.ptr none] λb=>.AJ b (.BZ p 0 λ_ _ c=>.op (.Ud true) [c,.ptr none] λd=>.AJ d (.ih [g a 0,I 1] λe=>.AJ e (.ik [g a 0,I 6] λf=>.rr [f]) (.rr [ff])) (.rr [ff])) (.rr [ff])
def ye:Ff cx 34 t34:=λ_ _=>by kernel_rfl
def t35:IT:=
 .NY λa=>.mem .Uc [a,I 1,.func (.func 43) [] []] λ_=>.mem .Uc [a,I 2,.func (.func 44) [] []] λ_=>.mem .Uc [a,I 3,.func (.func 45) [] []] λ_=>.mem .Uc [a,I 4,.func (.func 46) [] []] λ_=>.mem .Uc [a,I 5,.func (.func 47) [] []] λ_=>.mem .Uc [a,I 6,.func (.func 48) [] []] λ_=>.mem .Uc [a,I 7,.func (.func 49) [] []] λ_=>.mem .Uc [a,I 8,.func (.func 50) [] []] λ_=>.mem .Uc [a,I 18,.func (.func 51) [] []] λ_=>.rr [a]
def yf:B7 cx 35 []=t35:=by kernel_rfl
def t36(p q:Aa):IT:=
 .ln [p] λa=>.ln [q] λb=>.iq [a,b] λc=>.AJ c (.rr [ff]) (.loop 4 [ff,I 0] (λd=>.ln [p] λe=>.il [g d 1,e] λf=>.AJ f (.ea 1 [p,g d 1] λh=>.ld h λj=>.ea 1 [q,g d 1] λk=>.ld k λm=>.iq [j,m] λn=>.AJ n (.rr [ff,g d 1]) (.ia [g d 1,I 1] λo=>.rn [g d 0,o])) (.rx 0 [g d 0,g d 1])) (lx 0 (λs=>.rr [tt]) λs=>.rr [g s 0]))
def aDr:Ff cx 36 t36:=λ_ _=>by kernel_rfl
def t38:IT:=
 .op (.CT [.slnil,.map none] []) [] λa=>.alloc 2 a λb=>.rr [b]
def yg:B7 cx 38 []=t38:=by kernel_rfl
def t39(p q:Aa):IT:=
 .call 55 [p,q] λa=>.op (.ext 0) [a] λb=>.op (.ext 1) [a] λc=>.cells 13 b λd=>.iq [c,I 0] λe=>.AJ e (.rr [.ptr none]) (.iq [g d 0,I 1] λf=>.AJ f (.rr [.ptr none]) (.op (.CT [.ptr none,I 0,.slnil,.slnil,I 0,I 0,.slnil,I 0,I 0,ff,I 0,I 0,S [],ff,ff,ff,S [],ff,I 0,ff] [(0,1),(1,1),(4,1),(14,1)]) [p,q,I 1,tt] λh=>.alloc 20 h λj=>.rr [j]))
def yh:Ff cx 39 t39:=λ_ _=>by kernel_rfl
def t40(p q:Aa):IT:=
 .op (.Ud false) [p,.ptr none] λa=>.AJ a (.rr [I 0]) (.op (.CT [I 0,I 0,.slnil,I 0,I 0,S [],.slnil,S [],S [],S [],ff,I 0,I 0] [(0,1),(10,1)]) [I 1,q] λb=>.call 56 [p,b] λc=>.call 57 [p,c] λd=>.fa d 0 λ_ e=>.op (.FN 3) [e] λf=>.store 1 f c (.rr [c]))
def sJ:Ff cx 40 t40:=λ_ _=>by kernel_rfl
def t41(p:Aa):IT:=
 .cells 12 p λa=>.op (.append 3 40) [.slnil,g a 8] λb=>.cells 1 b λc=>.cells 12 (.agg [g a 0,g a 1,g a 2,g a 3,g a 4,g a 5,g a 6,g a 7,g c 0,g a 9,g a 10,g a 11]) λd=>.rr [Gf d]
def yi:FW cx 41 t41:=λ_=>by kernel_rfl
def t42(p q:Aa):IT:=
 .loop 2 [ff,I 0] (λa=>.lt [p] λb=>.il [g a 1,b] λc=>.AJ c (.op .SN [p,g a 1] λd=>.ie [d,q] λe=>.AJ e (.rr [tt,g a 1]) (.ia [g a 1,I 1] λf=>.rn [g a 0,f])) (.rx 0 [g a 0,g a 1])) (lx 0 (λh=>.rr [ff]) λh=>.rr [g h 0])
def aDs:Ff cx 42 t42:=λ_ _=>by kernel_rfl
def t43(p q:Aa):IT:=
 .cells 12 q λa=>.call 34 [p,Gf a] λb=>.nt [b] λc=>.AJ c (.rr [ff]) (.call 58 [Gf a] λd=>.AJ d (.rr [ff]) (.ie [g a 0,I 4] λe=>.AJ e (.BZ p 1 λ_ _ f=>.call 59 [p,g a 10,f] λ_=>.rr [ff]) (.iq [g a 0,I 1] λh=>.AJ h (.BZ p 0 λ_ _ j=>.BZ p 1 λ_ _ k=>.call 60 [j,k,tt] λ_=>.call 61 [p,I 2] λm=>.rr [m]) (.BZ p 0 λ_ _ n=>.BZ p 1 λ_ _ o=>.call 62 [n,o,g a 1,g a 3,g a 5] λs=>.op (.ext 0) [s] λu=>.op (.ext 1) [s] λw=>.ie [w,I 0] λy=>.AJ y (.BZ p 0 λ_ _ z=>.BZ p 1 λ_ _ a0=>.call 63 [z,a0,u,I 0] λ_=>.call 64 [Gf a] λa1=>.AJ a1 (.BZ p 0 λ_ _ a2=>.BZ p 1 λ_ _ a5=>.call 60 [a2,a5,tt] λ_=>.fa p 4 λ_ a7=>.store 1 a7 (I 2) (.rr [ff])) (.fa p 4 λ_ a8=>.store 1 a8 (I 2) (.rr [ff]))) (.call 64 [Gf a] λb0=>.AJ b0 (.BZ p 0 λ_ _ b1=>.BZ p 1 λ_ _ b2=>.call 60 [b1,b2,tt] λ_=>.fa p 4 λ_ b3=>.store 1 b3 (I 2) (.rr [ff])) (.fa p 4 λ_ b4=>.store 1 b4 (I 2) (.rr [ff])))))))
def Sq:Ff cx 43 t43:=λ_ _=>by kernel_rfl
def Ŋ(p q:Aa):IT:=
 .cells 12 q λa=>.call 34 [p,Gf a] λb=>.nt [b] λc=>.AJ c (.rr [ff]) (.ie [g a 0,I 1] λd=>.AJ d (.rr [ff]) (.call 58 [Gf a] λe=>.AJ e (.rr [ff]) (.call 65 [Gf a,S aXI] λf=>.AJ f (.rr [ff]) (.ie [g a 0,I 4] λh=>.AJ h (.BZ p 1 λ_ _ j=>.call 59 [p,g a 10,j] λ_=>.rr [ff]) (.call 66 [Gf a,S aWS] λk=>.AJ k (.call 67 [p,Gf a] λ_=>.fa p 4 λ_ m=>.store 1 m (I 3) (.rr [ff])) (.call 68 [S aWS] λn=>.call 67 [p,n] λ_=>.call 61 [p,I 3] λo=>.rr [o]))))))
def Qr:Ff cx 44 Ŋ:=λ_ _=>by kernel_rfl
def ā(p q:Aa):IT:=
 .cells 12 q λa=>.call 34 [p,Gf a] λb=>.nt [b] λc=>.AJ c (.rr [ff]) (.ie [g a 0,I 1] λd=>.AJ d (.rr [ff]) (.call 58 [Gf a] λe=>.AJ e (.rr [ff]) (.call 65 [Gf a,S aXI] λf=>.AJ f (.rr [ff]) (.ie [g a 0,I 4] λh=>.AJ h (.call 59 [p,g a 10,I 0] λ_=>.rr [ff]) (.call 66 [Gf a,S aWS] λj=>.AJ j (.call 49 [p,Gf a] λk=>.rr [k]) (.call 66 [Gf a,S aWW] λm=>.AJ m (.call 67 [p,Gf a] λn=>.fa p 7 λ_ o=>.store 1 o n (.fa p 4 λ_ s=>.store 1 s (I 4) (.rr [ff]))) (.call 68 [S aWW] λu=>.call 67 [p,u] λw=>.fa p 7 λ_ y=>.store 1 y w (.call 61 [p,I 4] λz=>.rr [z]))))))))
def O4:Ff cx 45 ā:=λ_ _=>by kernel_rfl
def t46(p q:Aa):IT:=
 .cells 12 q λa=>.call 34 [p,Gf a] λb=>.nt [b] λc=>.AJ c (.rr [ff]) (.ie [g a 0,I 1] λd=>.AJ d (.rr [ff]) (.call 66 [Gf a,S aWW] λe=>.AJ e (.rr [ff]) (.call 65 [Gf a,S aXE] λf=>.AJ f (.rr [ff]) (.call 58 [Gf a] λh=>.AJ h (.call 69 [p,g a 11] λ_=>.rr [ff]) (.ie [g a 0,I 4] λj=>.AJ j (.call 59 [p,g a 10,I 0] λ_=>.rr [ff]) (.call 66 [Gf a,S aWS] λk=>.AJ k (.call 49 [p,Gf a] λm=>.rr [m]) (.call 66 [Gf a,S aXr] λn=>.AJ n (.call 70 [p,Gf a] λ_=>.rr [ff]) (.call 66 [Gf a,S aW4] λo=>.AJ o (.call 71 [p,Gf a,I 2] λ_=>.rr [ff]) (.call 66 [Gf a,S aX8] λs=>.AJ s (.call 71 [p,Gf a,I 3] λ_=>.rr [ff]) (.call 66 [Gf a,S aXg] λu=>.AJ u (.call 71 [p,Gf a,I 4] λ_=>.rr [ff]) (.call 66 [Gf a,S aW3] λw=>.AJ w (.call 67 [p,Gf a] λ_=>.fa p 4 λ_ y=>.store 1 y (I 5) (.rr [ff])) (.call 72 [Gf a,S aWW] λz=>.AJ z (.fa p 2 λ_ a0=>.call 73 [a0] λ_=>.fa p 4 λ_ a1=>.store 1 a1 (I 6) (.rr [ff])) (.call 66 [Gf a,S aWU] λa2=>.AJ a2 (.call 67 [p,Gf a] λ_=>.fa p 3 λ_ a5=>.call 74 [a5] λ_=>.fa p 14 λ_ a7=>.store 1 a7 ff (.fa p 4 λ_ a8=>.store 1 a8 (I 18) (.BZ p 6 λ_ _ b0=>.call 32 [b0] λb1=>.op (.Cl 1) [I 18] λb2=>.op (.append 1 8) [b1,b2] λb3=>.fa p 6 λ_ b4=>.store 1 b4 b3 (.rr [ff])))) (.call 72 [Gf a,S aWU] λb5=>.AJ b5 (.call 75 [p] λ_=>.rr [ff]) (.fa p 2 λ_ b6=>.call 73 [b6] λ_=>.call 61 [p,I 6] λb7=>.rr [b7])))))))))))))))
def IM:Ff cx 46 t46:=λ_ _=>by kernel_rfl
def qw(p q:Aa):IT:=
 .cells 12 q λa=>.call 34 [p,Gf a] λb=>.nt [b] λc=>.AJ c (.rr [ff]) (.ie [g a 0,I 1] λd=>.AJ d (.rr [ff]) (.call 66 [Gf a,S aYd] λe=>.AJ e (.rr [ff]) (.call 65 [Gf a,S aYo] λf=>.AJ f (.rr [ff]) (.call 66 [Gf a,S aWS] λh=>.AJ h (.call 49 [p,Gf a] λj=>.rr [j]) (.call 72 [Gf a,S aW3] λk=>.AJ k (.fa p 2 λ_ m=>.call 73 [m] λ_=>.fa p 4 λ_ n=>.store 1 n (I 4) (.rr [ff])) (.call 58 [Gf a] λo=>.AJ o (.call 46 [p,Gf a] λs=>.rr [s]) (.ie [g a 0,I 4] λu=>.AJ u (.call 46 [p,Gf a] λw=>.rr [w]) (.call 66 [Gf a,S aXd] λy=>.AJ y (.call 46 [p,Gf a] λz=>.rr [z]) (.fa p 2 λ_ a0=>.call 73 [a0] λ_=>.call 61 [p,I 4] λa1=>.rr [a1])))))))))
def MV:Ff cx 47 qw:=λ_ _=>by kernel_rfl
def xC(p q:Aa):IT:=
 .cells 12 q λa=>.call 34 [p,Gf a] λb=>.nt [b] λc=>.AJ c (.rr [ff]) (.ie [g a 0,I 1] λd=>.AJ d (.rr [ff]) (.call 66 [Gf a,S aWW] λe=>.AJ e (.rr [ff]) (.call 65 [Gf a,S aXQ] λf=>.AJ f (.rr [ff]) (.call 58 [Gf a] λh=>.AJ h (.call 69 [p,g a 11] λ_=>.rr [ff]) (.ie [g a 0,I 4] λj=>.AJ j (.call 59 [p,g a 10,I 0] λ_=>.rr [ff]) (.call 66 [Gf a,S aWS] λk=>.AJ k (.call 49 [p,Gf a] λm=>.rr [m]) (.call 66 [Gf a,S aWX] λn=>.AJ n (.call 67 [p,Gf a] λ_=>.fa p 14 λ_ o=>.store 1 o ff (.fa p 4 λ_ s=>.store 1 s (I 7) (.rr [ff]))) (.call 66 [Gf a,S aW0] λu=>.AJ u (.call 67 [p,Gf a] λ_=>.fa p 4 λ_ w=>.store 1 w (I 20) (.rr [ff])) (.call 66 [Gf a,S aWR] λy=>.AJ y (.call 76 [p,Gf a,.func (.func 46) [] []] λz=>.rr [z]) (.call 72 [Gf a,S aWU] λa0=>.AJ a0 (.call 46 [p,Gf a] λa1=>.rr [a1]) (.call 68 [S aWX] λa2=>.call 67 [p,a2] λ_=>.call 61 [p,I 7] λa5=>.rr [a5])))))))))))
def K6:Ff cx 48 xC:=λ_ _=>by kernel_rfl
def xD(p q:Aa):IT:=
 .cells 12 q λa=>.call 34 [p,Gf a] λb=>.nt [b] λc=>.AJ c (.rr [ff]) (.op (.CT [.ptr none,I 0,S [],ff,S [],ff,S [],ff,ff,.slnil,ff,S [],.int .i32 0] [(0,1),(1,12)]) [p,Gf a] λd=>.alloc 13 d λe=>.ie [g a 0,I 5] λf=>.AJ f (.call 77 [e] λ_=>.rr [ff]) (.ie [g a 0,I 4] λh=>.AJ h (.call 59 [p,g a 10,I 0] λ_=>.rr [ff]) (.ie [g a 0,I 6] λj=>.AJ j (.BZ p 6 λ_ _ k=>.ln [k] λm=>.ig [m,I 0] λn=>.AJ n (.call 51 [p,Gf a] λo=>.rr [o]) (.call 78 [p] λ_=>.rr [ff])) (.ie [g a 0,I 2] λs=>.AJ s (.call 79 [] λu=>.MB .nilFunc false u (g a 1) λw=>.op (.FM true .fn) [w,.nilFunc] λy=>.AJ y (.El w [e] λz=>.rr [z]) (.call 80 [p] λ_=>.call 67 [p,Gf a] λ_=>.rr [ff])) (.ie [g a 0,I 3] λa0=>.AJ a0 (.call 81 [] λa1=>.MB .nilFunc false a1 (g a 1) λa2=>.op (.FM true .fn) [a2,.nilFunc] λa5=>.AJ a5 (.El a2 [e] λa7=>.rr [a7]) (.call 82 [p,g a 1] λ_=>.rr [ff])) (.rr [ff]))))))
def K8:Ff cx 49 xD:=λ_ _=>by kernel_rfl
end Go.Am
