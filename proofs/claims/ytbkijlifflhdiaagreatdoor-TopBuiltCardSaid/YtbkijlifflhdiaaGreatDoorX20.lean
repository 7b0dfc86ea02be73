/- Lemmas -/
import Derived.Test.YtbkijlifflhdiaaGreatDoorX9
import Derived.Test.YtbkijlifflhdiaaGreatDoorX17
set_option linter.all false
namespace Go.Am
open Go
def t33(p q:Aa):IT:=
 .Dm p 0 λ_ _ a=>.ea 13 [a,q] λb=>.load (some 13) b λc=>.cells 13 c λd=>.ca 79 [p,g d 3] λe=>.nt [e] λf=>.AX f (.rr [ff]) (.Dm p 0 λ_ _ h=>.ea 13 [h,g d 3] λj=>.fl j 0 λ_ k=>.iq [k,I 1] λm=>.AX m (.rr [ff]) (.ie [g d 0,I 1] λn=>.AX n (.iq [g d 3,q] λo=>.AX o (.rr [ff]) (.ca 78 [bR d] λs=>.AX s (.ca 79 [p,g d 11] λu=>.nt [u] λw=>.AX w (.rr [ff]) (.Dm p 0 λ_ _ y=>.ea 13 [y,g d 11] λz=>.fl z 0 λ_ a0=>.iq [a0,I 2] λa1=>.AX a1 (.rr [ff]) (.Dm p 0 λ_ _ a2=>.ea 13 [a2,g d 11] λa5=>.fl a5 12 λ_ a7=>.iq [a7,q] λa8=>.AX a8 (.rr [ff]) (.ie [g d 12,I 0] λb0=>.AX b0 (.rr [tt]) (.ca 79 [p,g d 12] λb1=>.AX b1 (.Dm p 0 λ_ _ b2=>.ea 13 [b2,g d 12] λb3=>.load (some 13) b3 λb4=>.ca 78 [b4] λb5=>.AX b5 (.Dm p 0 λ_ _ b6=>.ea 13 [b6,g d 12] λb7=>.fl b7 11 λ_ b8=>.ie [b8,q] λb9=>.rr [b9]) (.rr [ff])) (.rr [ff])))))) (.ie [g d 12,I 0] λc0=>.AX c0 (.rr [tt]) (.ca 79 [p,g d 12] λc1=>.AX c1 (.Dm p 0 λ_ _ c2=>.ea 13 [c2,g d 12] λc3=>.load (some 13) c3 λc4=>.ca 78 [c4] λc6=>.AX c6 (.Dm p 0 λ_ _ c7=>.ea 13 [c7,g d 12] λc8=>.fl c8 11 λ_ c9=>.ie [c9,q] λd0=>.rr [d0]) (.rr [ff])) (.rr [ff]))))) (.ca 78 [bR d] λd1=>.AX d1 (.ca 79 [p,g d 11] λd2=>.nt [d2] λd3=>.AX d3 (.rr [ff]) (.Dm p 0 λ_ _ d4=>.ea 13 [d4,g d 11] λd5=>.fl d5 0 λ_ d6=>.iq [d6,I 2] λd7=>.AX d7 (.rr [ff]) (.Dm p 0 λ_ _ d8=>.ea 13 [d8,g d 11] λd9=>.fl d9 12 λ_ e0=>.iq [e0,q] λe1=>.AX e1 (.rr [ff]) (.ie [g d 12,I 0] λe2=>.AX e2 (.rr [tt]) (.ca 79 [p,g d 12] λe3=>.AX e3 (.Dm p 0 λ_ _ e4=>.ea 13 [e4,g d 12] λe5=>.load (some 13) e5 λe6=>.ca 78 [e6] λe7=>.AX e7 (.Dm p 0 λ_ _ e8=>.ea 13 [e8,g d 12] λe9=>.fl e9 11 λ_ f0=>.ie [f0,q] λf1=>.rr [f1]) (.rr [ff])) (.rr [ff])))))) (.ie [g d 12,I 0] λf2=>.AX f2 (.rr [tt]) (.ca 79 [p,g d 12] λf3=>.AX f3 (.Dm p 0 λ_ _ f4=>.ea 13 [f4,g d 12] λf5=>.load (some 13) f5 λf6=>.ca 78 [f6] λf7=>.AX f7 (.Dm p 0 λ_ _ f8=>.ea 13 [f8,g d 12] λf9=>.fl f9 11 λ_ h0=>.ie [h0,q] λh1=>.rr [h1]) (.rr [ff])) (.rr [ff]))))))
def ur:GG cx 33 t33:=λ_ _=>A0
def t34(p q:Aa):IT:=
 .ca 80 [p,q] λa=>.loop 3 [ff,a,I 0] (λb=>.iq [g b 1,I 0] λc=>.AX c (.Dm p 0 λ_ _ d=>.ln [d] λe=>.il [g b 2,e] λf=>.AX f (.ie [g b 1,q] λh=>.AX h (.rr [tt,g b 1,g b 2]) (.ca 80 [p,g b 1] λj=>.ia [g b 2,I 1] λk=>.rn [g b 0,j,k])) (.rx 0 [g b 0,g b 1,g b 2])) (.rx 0 [g b 0,g b 1,g b 2])) (lx 0 (λm=>.rr [ff]) λm=>.rr [g m 0])
def uv:GG cx 34 t34:=λ_ _=>A0
def t35(p q r:Aa):IT:=
 .loop 3 [I 0,I 0] (λa=>.ln [q] λb=>.il [g a 1,b] λc=>.AX c (.Dm p 0 λ_ _ d=>.ea 1 [q,g a 1] λe=>.ld e λf=>.ea 13 [d,f] λh=>.fl h 0 λ_ j=>.ie [j,r] λk=>.AX k (.ia [g a 0,I 1] λm=>.ia [g a 1,I 1] λn=>.rn [m,n]) (.ia [g a 1,I 1] λo=>.rn [g a 0,o])) (.rx 0 [g a 0,g a 1])) (lx 0 (λs=>.rr [g s 0]) λs=>.rr [I 0])
def uw:Q0 cx 35 t35:=λ_ _ _=>A0
def t37(p:Aa):IT:=
 .ca 82 [p] λa=>.ib [a,I 1] λb=>.ca 81 [p,b] λc=>.cells 4 c λd=>.rr [a4 d]
def uP:JG cx 37 t37:=λ_=>A0
def t42:IT:=
 .op (.B4 [.slnil,.map none] []) [] λa=>.alloc 2 a λb=>.rr [b]
def uQ:B2 cx 42 []=t42:=A0
def t43(p q:Aa):IT:=
 .op (.Te false) [p,.ptr none] λa=>.AX a (.rr [I 0]) (.op (.B4 [I 0,I 0,.slnil,I 0,I 0,S [],.slnil,S [],S [],S [],ff,I 0,I 0] [(0,1),(10,1)]) [I 1,q] λb=>.ca 90 [p,b] λc=>.ca 55 [p,c] λd=>.fa d 0 λ_ e=>.op (.FV 3) [e] λf=>.store 1 f c (.rr [c]))
def fL:GG cx 43 t43:=λ_ _=>A0
def zy(p q r:Aa):IT:=
 .cells 5 r λa=>.ca 45 [p,q] λb=>.op (.Te false) [b,.ptr none] λc=>.AX c (.rr [.ptr none]) (.op (.B4 [I 0,S [],ff,S [],ff,S [],ff,ff,.slnil,ff,S [],.int .i32 0] [(0,1),(1,1)]) [I 2,S aLe] λd=>.ca 76 [b,d,I 1,q] λe=>.cells 4 e λf=>.ca 53 [b,g f 0,q,I 0] λ_=>.fa b 2 λ_ h=>.ca 91 [h,a4 f] λ_=>.fa b 9 λ_ j=>.store 1 j tt (.ca 92 [g a 0,g a 1,g a 2] λk=>.op (.B4 [I 0,I 0,S [],ff] [(1,1),(2,1),(3,1)]) [g a 0,g a 1,k] λm=>.fa b 10 λ_ n=>.store 4 n m (.fa b 10 λ_ o=>.load (some 4) o λs=>.op (.Cf 1) [S aK9] λu=>.ca 93 [s,u] λw=>.AX w (.op (.Cf 1) [I 18] λy=>.fa b 6 λ_ z=>.store 1 z y (.ca 67 [b] λ_=>.AX (g a 4) (.fa b 8 λ_ a0=>.store 1 a0 (I (-1)) (.rr [b])) (.rr [b]))) (.ca 67 [b] λ_=>.AX (g a 4) (.fa b 8 λ_ a1=>.store 1 a1 (I (-1)) (.rr [b])) (.rr [b])))))
def UG:Q0 cx 44 zy:=λ_ _ _=>A0
def t45(p q:Aa):IT:=
 .ca 21 [p,q] λa=>.op (.ext 0) [a] λb=>.op (.ext 1) [a] λc=>.cells 13 b λd=>.iq [c,I 0] λe=>.AX e (.rr [.ptr none]) (.iq [g d 0,I 1] λf=>.AX f (.rr [.ptr none]) (.op (.B4 [.ptr none,I 0,.slnil,.slnil,I 0,I 0,.slnil,I 0,I 0,ff,I 0,I 0,S [],ff,ff,ff,S [],ff,I 0,ff] [(0,1),(1,1),(4,1),(14,1)]) [p,q,I 1,tt] λh=>.alloc 20 h λj=>.rr [j]))
def uR:GG cx 45 t45:=λ_ _=>A0
def t46(p q r:Aa):IT:=
 .cells 12 q λa=>.ca 25 [p] λb=>.nt [b] λc=>.AX c (.rr [I 0]) (.ca 94 [p,.func (.func 76) [p] [],lq a,r] λd=>.rr [d])
def uS:Q0 cx 46 t46:=λ_ _ _=>A0
def t47(p q:Aa):IT:=
 .ca 25 [p] λa=>.nt [a] λb=>.AX b (.rr [.tuple [I 0,I 0]]) (.ie [q,I 0] λc=>.Fj 100012 (.AX c (.fa p 2 λ_ d=>.ca 82 [d] λe=>.ie [e,I 0] λf=>.AX f (.Dm p 1 λ_ _ h=>.rr [q,h,I 0]) (.ca 14 [p] λj=>.op (.part 0 none) [j] λk=>.rn [k,I 0,I 0])) (.rn [q,I 0,I 0])) (nx (λm=>.ca 48 [p,g m 0] λn=>.cells 13 n λo=>.Fj 200009 (.Dm p 15 λ_ _ s=>.AX s (.ie [g o 0,I 4] λu=>.AX u (.op (.B4 [I 0,I 0,S [],ff] [(1,1),(2,1)]) [g o 4,g o 5] λw=>.op (.Cf 1) [S aLb,S aLr,S aLn,S aLs,S [116,114]] λy=>.ca 93 [w,y] λz=>.rn [z]) (.rn [ff])) (.rn [ff])) (nx (λa0=>.Fj 100046 (.AX (g a0 0) (.ca 95 [p] λa1=>.op (.ext 0) [a1] λa2=>.op (.ext 1) [a1] λa5=>.rn [a2,a5]) (.rn [g m 0,g m 2])) (nx (λa7=>.ca 48 [p,g a7 0] λa8=>.cells 13 a8 λb0=>.iq [g b0 11,I 0] λb1=>.AX b1 (.rr [.tuple [g b0 11,I 0]]) (.rr [.tuple [g a7 0,g a7 1]])) λa7=>.rr [.tuple [g a7 0,g a7 1]])) λa0=>.rr [.tuple [g m 0,g m 2]])) λm=>.rr [.tuple [g m 1,g m 2]]))
def fM:GG cx 47 t47:=λ_ _=>A0
def t48(p q:Aa):IT:=
 .Dm p 0 λ_ _ a=>.ca 21 [a,q] λb=>.op (.ext 0) [b] λc=>.op (.ext 1) [b] λ_=>.cells 13 c λd=>.cells 13 (bR d) λe=>.rr [bR e]
def uT:GG cx 48 t48:=λ_ _=>A0
def t49(p q:Aa):IT:=
 .ln [p] λa=>.loop 2 [I 0,I 0] (λb=>.il [g b 1,a] λc=>.AX c (.ea 1 [p,g b 1] λd=>.ld d λe=>.ie [q,e] λf=>.AX f (.rr [g b 1,g b 1]) (.ia [g b 1,I 1] λh=>.rn [g b 0,h])) (.rx 0 [g b 0,g b 1])) (lx 0 (λj=>.rr [I (-1)]) λj=>.rr [g j 0])
def uU:GG cx 49 t49:=λ_ _=>A0
def t50(p q:Aa):IT:=
 .op (.conv .u32) [q] λa=>.ik [a,.int .u32 127] λb=>.AX b (.op (.conv .u8) [q] λc=>.op (.Cf 1) [c] λd=>.FJ 1 1 p d λe=>.rr [e]) (.ca 96 [p,q] λf=>.rr [f])
def uV:GG cx 50 t50:=λ_ _=>A0
def t51(p q r:Aa):IT:=
 .op (.Cf 1) [q] λa=>.ca 54 [p,a] λb=>.iq [b,I 0] λc=>.AX c (.rr [b]) (.ca 55 [p,q] λd=>.fa d 0 λ_ e=>.fl e 0 λ_ f=>.iq [f,I 5] λh=>.AX h (.fa d 0 λ_ j=>.fl j 0 λ_ k=>.iq [k,I 6] λm=>.AX m (.rr [I 9]) (.fa d 0 λ_ n=>.op (.FV 7) [n] λo=>.store 1 o r (.rr [I 0]))) (.fa d 0 λ_ s=>.op (.FV 7) [s] λu=>.store 1 u r (.rr [I 0])))
def uW:Q0 cx 51 t51:=λ_ _ _=>A0
def t52(p q r:Aa):IT:=
 .op (.B4 [I 0,I 0,.slnil,I 0,I 0,S [],.slnil,S [],S [],S [],ff,I 0,I 0] [(0,1),(7,1)]) [I 5,r] λa=>.ca 97 [p,q,a] λb=>.op (.ext 0) [b] λc=>.op (.ext 1) [b] λd=>.rr [.tuple [c,d]]
def uX:Q0 cx 52 t52:=λ_ _ _=>A0
def t53(p q r u:Aa):IT:=
 .cells 1 p λa=>.ca 48 [g a 0,r] λb=>.op (.part 0 none) [b] λc=>.ie [c,I 1] λd=>.AX d (.ca 48 [g a 0,q] λe=>.op (.part 0 none) [e] λf=>.ie [f,I 4] λh=>.AX h (.Dm (g a 0) 0 λ_ _ j=>.ca 84 [j,r] λk=>.ca 98 [k,.func (.func 99) [] [.Cz [g a 0]]] λm=>.AX m (.rr [.tuple []]) (.ld (.Cz [g a 0]) λn=>.Dm n 0 λ_ _ o=>.ca 100 [o,r,q,u] λ_=>.rr [.tuple []])) (.Dm (g a 0) 0 λ_ _ s=>.ca 100 [s,r,q,u] λ_=>.rr [.tuple []])) (.Dm (g a 0) 0 λ_ _ w=>.ca 100 [w,r,q,u] λ_=>.rr [.tuple []])
def UH:ô cx 53 t53:=λ_ _ _ _=>A0
def t54(p q:Aa):IT:=
 .op (.Te false) [p,.ptr none] λa=>.AX a (.rr [I 1]) (.ln [q] λb=>.loop 4 [I 0,I 0] (λc=>.il [g c 1,b] λd=>.AX d (.ea 1 [q,g c 1] λe=>.ld e λf=>.ca 56 [p,f] λh=>.nt [h] λj=>.AX j (.rr [I 3,g c 1]) (.ia [g c 1,I 1] λk=>.rn [g c 0,k])) (.rx 0 [g c 0,g c 1])) (lx 0 (λm=>.rr [I 0]) λm=>.rr [g m 0]))
def uY:GG cx 54 t54:=λ_ _=>A0
def t55(p q:Aa):IT:=
 .Dm p 0 λ_ _ a=>.ib [q,I 1] λb=>.ea 13 [a,b] λc=>.rr [c]
def fN:GG cx 55 t55:=λ_ _=>A0
def t56(p q:Aa):IT:=
 .op (.Te true) [p,.ptr none] λa=>.AX a (.ih [q,I 1] λb=>.AX b (.Dm p 0 λ_ _ c=>.ln [c] λd=>.ik [q,d] λe=>.rr [e]) (.rr [ff])) (.rr [ff])
def uZ:GG cx 56 t56:=λ_ _=>A0
def t59(p:Aa):IT:=
 .cells 9 p λa=>.op (.append 3 40) [.slnil,g a 2] λb=>.op (.B4 [I 0,S [],ff,S [],ff,S [],ff,ff,.slnil,ff,S [],.int .i32 0] [(0,1),(1,1),(8,1)]) [I 2,g a 1,b] λc=>.cells 12 c λd=>.rr [lq d]
def ux:JG cx 59 t59:=λ_=>A0
def t60(p q:Aa):IT:=
 .cells 12 q λa=>.ca 19 [p,lq a] λb=>.iq [b,I 0] λc=>.AX c (.fa p 3 λ_ d=>.op (.B4 [I 0,S [],.slnil] [(0,1),(1,1),(2,1)]) [b,g a 1,g a 8] λe=>.ca 105 [d,e] λ_=>.rr [b]) (.rr [b])
def uy:GG cx 60 t60:=λ_ _=>A0
def t61(p q r:Aa):IT:=
 .ca 25 [p] λa=>.nt [a] λb=>.AX b (.rr [.tuple []]) (.ie [r,I 0] λc=>.Fj 100014 (.AX c (.ca 47 [p,I 0] λd=>.op (.ext 0) [d] λe=>.op (.ext 1) [d] λf=>.rn [e,f]) (.rn [r,I 0])) (nx (λh=>.ca 48 [p,g h 0] λj=>.cells 13 j λk=>.Fj 200005 (.iq [g k 0,I 1] λm=>.AX m (.iq [g k 0,I 2] λn=>.AX n (.iq [g k 0,I 4] λo=>.rn [o]) (.rn [ff])) (.rn [ff])) (nx (λs=>.AX (g s 0) (.rr [.tuple []]) (.Dm p 0 λ_ _ u=>.ca 106 [u,g k 3,q] λw=>.op (.ext 0) [w] λy=>.op (.ext 1) [w] λz=>.ie [z,I 0] λa0=>.Fj 100048 (.AX a0 (.ca 53 [p,y,g h 0,g h 1] λ_=>.rn []) (.rn [])) (nx (λa1=>.rr [.tuple []]) λa1=>.rr [.tuple []]))) λs=>.rr [.tuple []])) λh=>.rr [.tuple []]))
def u0:Q0 cx 61 t61:=λ_ _ _=>A0
def t62(p q r:Aa):IT:=
 .cells 12 q λa=>.ca 25 [p] λb=>.AX b (.ca 19 [p,lq a] λ_=>.Dm p 4 λ_ _ c=>.fa p 18 λ_ d=>.store 1 d r (.fa p 5 λ_ e=>.store 1 e c (.fa p 4 λ_ f=>.store 1 f (I 8) (.rr [.tuple []])))) (.rr [.tuple []])
def uz:Q0 cx 62 t62:=λ_ _ _=>A0
def t63(p:Aa):IT:=
 .ca 25 [p] λa=>.AX a (.fa p 2 λ_ b=>.op (.Cf 1) [S [112]] λc=>.ca 107 [b,I 3,c] λd=>.AX d (.fa p 2 λ_ e=>.ca 108 [e,S [112]] λ_=>.fa p 2 λ_ f=>.op (.Cf 1) [S [112]] λh=>.ca 75 [f,h] λ_=>.rr [.tuple []]) (.rr [.tuple []])) (.rr [.tuple []])
def u9:JG cx 63 t63:=λ_=>A0
def t64(p:Aa):IT:=
 .ca 25 [p] λa=>.nt [a] λb=>.AX b (.HX 3 p (.rr [.tuple []])) (.fa p 3 λ_ c=>.fl c 0 λ_ d=>.ln [d] λe=>.loop 2 [e] (λf=>.ig [g f 0,I 0] λh=>.AX h (.fa p 3 λ_ j=>.fl j 0 λ_ k=>.ib [g f 0,I 1] λm=>.ea 3 [k,m] λn=>.fl n 0 λ_ o=>.iq [o,I 0] λs=>.AX s (.fa p 2 λ_ u=>.fa p 3 λ_ w=>.fl w 0 λ_ y=>.ib [g f 0,I 1] λz=>.ea 3 [y,z] λa0=>.fl a0 0 λ_ a1=>.ca 109 [u,a1] λa2=>.il [a2,I 0] λa5=>.AX a5 (.ib [g f 0,I 1] λa7=>.rn [a7]) (.rx 0 [g f 0])) (.rx 0 [g f 0])) (.rx 0 [g f 0])) (lx 0 (λa8=>.fa p 3 λ_ b0=>.fl b0 0 λ_ b1=>.ca 110 [b1] λb2=>.fa p 3 λ_ b3=>.op (.FV 0) [b3] λb4=>.store 1 b4 b2 (.loop 5 [g a8 0] (λb5=>.fa p 3 λ_ b6=>.fl b6 0 λ_ b7=>.ln [b7] λb8=>.il [g b5 0,b8] λb9=>.AX b9 (.fa p 3 λ_ c0=>.fl c0 0 λc1 c2=>.fa p 3 λ_ c3=>.fl c3 0 λ_ c4=>.ea 3 [c4,g b5 0] λc5=>.load (some 3) c5 λc6=>.ca 111 [c6] λc8=>.ld c1 λc9=>.same c2 c9 (.ca 19 [p,c8] λd0=>.ld c1 λd1=>.same c2 d1 (.ea 3 [c2,g b5 0] λd2=>.op (.FV 0) [d2] λd3=>.store 1 d3 d0 (.ia [g b5 0,I 1] λd4=>.rn [d4])))) (.rx 2 [g b5 0])) (lx 2 (λd5=>.HX 3 p (.rr [.tuple []])) λd5=>.HX 3 p (.rr [.tuple []])))) λa8=>.HX 3 p (.rr [.tuple []])))
def u_:JG cx 64 t64:=λ_=>A0
def t65(p q:Aa):IT:=
 .ca 25 [p] λa=>.nt [a] λb=>.AX b (.rr [.tuple []]) (.fa p 2 λ_ c=>.ca 82 [c] λd=>.ib [d,I 1] λe=>.loop 2 [e] (λf=>.ih [g f 0,I 0] λh=>.AX h (.fa p 2 λ_ j=>.ca 81 [j,g f 0] λk=>.cells 4 k λm=>.op (.Cf 1) [q] λn=>.ca 93 [a4 m,n] λo=>.AX o (.fa p 2 λ_ s=>.ca 108 [s,q] λ_=>.fa p 2 λ_ u=>.ca 112 [u,g m 0] λ_=>.rr [g f 0]) (.Co 113 [g m 1,g m 2] λw=>.AX w (.rr [g f 0]) (.ib [g f 0,I 1] λy=>.rn [y]))) (.rx 0 [g f 0])) (lx 0 (λz=>.rr [.tuple []]) λz=>.rr [.tuple []]))
def va:GG cx 65 t65:=λ_ _=>A0
def t66(p q:Aa):IT:=
 .ca 25 [p] λa=>.nt [a] λb=>.AX b (.rr [.tuple []]) (.ca 14 [p] λc=>.cells 4 c λd=>.op (.Cf 1) [q] λe=>.ca 93 [a4 d,e] λf=>.AX f (.fa p 3 λ_ h=>.ca 114 [h,g d 0] λj=>.il [j,I 0] λk=>.AX k (.fa p 2 λ_ m=>.ca 73 [m] λ_=>.rr [.tuple []]) (.loop 5 [I 0] (λn=>.il [g n 0,I 8] λo=>.AX o (.ca 115 [p,q] λs=>.nt [s] λu=>.AX u (.rr [g n 0]) (.ia [g n 0,I 1] λw=>.rn [w])) (.rx 0 [g n 0])) (lx 0 (λy=>.rr [.tuple []]) λy=>.rr [.tuple []]))) (.loop 5 [I 0] (λz=>.il [g z 0,I 8] λa0=>.AX a0 (.ca 115 [p,q] λa1=>.nt [a1] λa2=>.AX a2 (.rr [g z 0]) (.ia [g z 0,I 1] λa5=>.rn [a5])) (.rx 0 [g z 0])) (lx 0 (λa7=>.rr [.tuple []]) λa7=>.rr [.tuple []])))
def vA:GG cx 66 t66:=λ_ _=>A0
def t67(p:Aa):IT:=
 .ca 25 [p] λa=>.nt [a] λb=>.AX b (.rr [.tuple []]) (.fa p 4 λ_ c=>.store 1 c (I 7) (.fa p 2 λ_ d=>.ca 82 [d] λe=>.ib [e,I 1] λf=>.loop 3 [f] (λh=>.ih [g h 0,I 0] λj=>.AX j (.fa p 2 λ_ k=>.ca 81 [k,g h 0] λm=>.cells 4 m λn=>.ie [g h 0,I 0] λo=>.AX o (.Dm p 9 λ_ _ s=>.AX s (.fa p 10 λ_ u=>.load (some 4) u λw=>.cells 4 w λy=>.ca 116 [p,a4 y,g h 0] λz=>.op (.ext 0) [z] λa0=>.op (.ext 1) [z] λa1=>.AX a1 (.fa p 4 λ_ a2=>.store 1 a2 a0 (.rr [g h 0])) (.ib [g h 0,I 1] λa5=>.rn [a5])) (.ca 116 [p,a4 n,g h 0] λa7=>.op (.ext 0) [a7] λa8=>.op (.ext 1) [a7] λb0=>.AX b0 (.fa p 4 λ_ b1=>.store 1 b1 a8 (.rr [g h 0])) (.ib [g h 0,I 1] λb2=>.rn [b2]))) (.ca 116 [p,a4 n,g h 0] λb3=>.op (.ext 0) [b3] λb4=>.op (.ext 1) [b3] λb5=>.AX b5 (.fa p 4 λ_ b6=>.store 1 b6 b4 (.rr [g h 0])) (.ib [g h 0,I 1] λb7=>.rn [b7]))) (.rx 0 [g h 0])) (lx 0 (λb8=>.rr [.tuple []]) λb8=>.rr [.tuple []])))
def vB:JG cx 67 t67:=λ_=>A0
def t68(p q r:Aa):IT:=
 .cells 12 q λa=>.ca 25 [p] λb=>.nt [b] λc=>.AX c (.rr [.tuple []]) (.ca 48 [p,r] λd=>.op (.part 0 none) [d] λe=>.iq [e,I 4] λf=>.AX f (.rr [.tuple []]) (.ca 48 [p,r] λh=>.op (.part 6 none) [h] λj=>.ln [g a 8] λk=>.loop 4 [j,I 0] (λm=>.il [g m 1,k] λn=>.AX n (.ea 3 [g a 8,g m 1] λo=>.load (some 3) o λs=>.cells 3 s λu=>.ca 117 [g m 0,.func (.func 118) [] [.Cz [g u 0,g u 1,g u 2]]] λw=>.nt [w] λy=>.AX y (.fl (.Cz [g u 0,g u 1,g u 2]) 1 λ_ z=>.fl (.Cz [g u 0,g u 1,g u 2]) 2 λ_ a0=>.op (.B4 [I 0,S [],S []] [(1,1),(2,1)]) [z,a0] λa1=>.op (.Cf 3) [a1] λa2=>.FJ 3 40 (g m 0) a2 λa5=>.ia [g m 1,I 1] λa7=>.rn [a5,a7]) (.ia [g m 1,I 1] λa8=>.rn [g m 0,a8])) (.rx 0 [g m 0,g m 1])) (lx 0 (λb0=>.Dm p 0 λ_ _ b1=>.ca 119 [b1,r,g b0 0] λ_=>.rr [.tuple []]) λb0=>.rr [.tuple []])))
def vC:Q0 cx 68 t68:=λ_ _ _=>A0
def t69(p:Aa):IT:=
 .ca 25 [p] λa=>.nt [a] λb=>.AX b (.rr [.tuple []]) (.fa p 2 λ_ c=>.ca 120 [c,S aK9] λd=>.il [d,I 0] λe=>.AX e (.rr [.tuple []]) (.fa p 2 λ_ f=>.ca 121 [f] λ_=>.fa p 2 λ_ h=>.op (.Cf 1) [S aK9] λj=>.ca 75 [h,j] λ_=>.fa p 3 λ_ k=>.ca 74 [k] λ_=>.Dm p 6 λ_ _ m=>.ln [m] λn=>.ig [n,I 0] λo=>.AX o (.Dm p 6 λ_ _ s=>.ib [n,I 1] λu=>.op (.PI 1 false false true) [s,u] λw=>.ca 26 [w] λy=>.fa p 6 λ_ z=>.store 1 z y (.ca 67 [p] λ_=>.rr [.tuple []])) (.ca 67 [p] λ_=>.rr [.tuple []])))
def fO:JG cx 69 t69:=λ_=>A0
def t70(p:Aa):IT:=
 .ca 25 [p] λa=>.AX a (.fa p 19 λ_ b=>.store 1 b tt (.rr [.tuple []])) (.rr [.tuple []])
def vd:JG cx 70 t70:=λ_=>A0
def t71(p:Aa):IT:=
 .op (.Te true) [p,.ptr none] λa=>.AX a (.Dm p 0 λ_ _ b=>.op (.B4 [I 0,S [],.slnil] []) [] λc=>.Dm p 0 λ_ _ d=>.ln [d] λe=>.ca 122 [b,c,e] λf=>.fa p 0 λ_ h=>.store 1 h f (.rr [.tuple []])) (.rr [.tuple []])
def ve:JG cx 71 t71:=λ_=>A0
def t72(p:Aa):IT:=
 .cells 4 p λa=>.op (.B4 [I 0,I 0,S [],ff] [(0,1),(1,1),(2,1),(3,1)]) [g a 0,g a 1,g a 2,g a 3] λb=>.cells 4 b λc=>.rr [a4 c]
def vf:JG cx 72 t72:=λ_=>A0
def t73(p:Aa):IT:=
 .ca 82 [p] λa=>.il [a,I 2] λb=>.AX b (.op (.B4 [I 0,I 0,S [],ff] []) [] λc=>.cells 4 c λd=>.rr [a4 d]) (.ca 37 [p] λe=>.cells 4 e λf=>.Dm p 0 λ_ _ h=>.Dm p 0 λ_ _ j=>.ln [j] λk=>.ib [k,I 1] λm=>.op (.PI 4 false false true) [h,m] λn=>.fa p 0 λ_ o=>.store 1 o n (.cells 4 (a4 f) λs=>.rr [a4 s]))
def fP:JG cx 73 t73:=λ_=>A0
def t74(p:Aa):IT:=
 .op (.Te false) [p,.ptr none] λa=>.AX a (.rr [I 0]) (.Dm p 0 λ_ _ b=>.ln [b] λc=>.Dm p 0 λ_ d e=>.ca 123 [p] λf=>.ld d λh=>.same e h (.ib [f,I 1] λj=>.op (.J5 true) [j,I 0] λk=>.op (.PI 3 false false true) [e,k] λm=>.fa p 0 λ_ n=>.store 1 n m (.Dm p 0 λ_ _ o=>.ln [o] λs=>.ib [c,s] λu=>.rr [u])))
def vg:JG cx 74 t74:=λ_=>A0
def t75(p q:Aa):IT:=
 .cells 1 q λa=>.ca 124 [p,.func (.func 125) [] [],.func (.func 126) [] [.Cz [g a 0]]] λb=>.rr [b]
def vh:GG cx 75 t75:=λ_ _=>A0
def t76(p q r u:Aa):IT:=
 .cells 12 q λa=>.Fj 200001 (.ca 25 [p] λb=>.nt [b] λc=>.AX c (.rn [tt]) (.il [r,I 0] λd=>.AX d (.rn [tt]) (.ig [r,I 7] λe=>.rn [e]))) (nx (λf=>.AX (g f 0) (.op (.B4 [I 0,I 0,S [],ff] []) [] λh=>.cells 4 h λj=>.rr [a4 j]) (.ca 128 [r,g a 8] λk=>.ie [r,I 2] λm=>.Fj 100032 (.AX m (.Co 129 [g a 1] λn=>.rn [n]) (.rn [g a 1])) (nx (λo=>.Dm p 0 λ_ s w=>.ca 131 [p,u] λy=>.ld s λz=>.same w z (.ca 130 [w,y,r,g o 0,k] λa0=>.op (.ext 0) [a0] λa1=>.op (.ext 1) [a0] λa2=>.iq [a2,I 0] λa5=>.AX a5 (.op (.B4 [I 0,I 0,S [],ff] []) [] λa7=>.cells 4 a7 λa8=>.rr [a4 a8]) (.ca 92 [r,g o 0,k] λb0=>.op (.B4 [I 0,I 0,S [],ff] [(0,1),(1,1),(2,1),(3,1)]) [a1,r,g o 0,b0] λb1=>.cells 4 b1 λb2=>.rr [a4 b2]))) λo=>.rr [.agg [I 0,I 0,S [],ff]]))) λf=>.rr [.agg [I 0,I 0,S [],ff]])
def fQ:ô cx 76 t76:=λ_ _ _ _=>A0
def t77(p:Aa):IT:=
 .op (.Gu false .sl) [p,.slnil] λa=>.AX a (.rr [.slnil]) (.op (.Cf 1) [] λb=>.FW 1 8 b p λc=>.rr [c])
def fR:JG cx 77 t77:=λ_=>A0
def t78(p:Aa):IT:=
 .cells 13 p λa=>.ie [g a 0,I 4] λb=>.AX b (.ie [g a 4,I 1] λc=>.AX c (.se [g a 5,S aK9] λd=>.rr [d]) (.rr [ff])) (.rr [ff])
def vi:JG cx 78 t78:=λ_=>A0
def t79(p q:Aa):IT:=
 .ig [q,I 0] λa=>.AX a (.Dm p 0 λ_ _ b=>.ln [b] λc=>.il [q,c] λd=>.rr [d]) (.rr [ff])
def vj:GG cx 79 t79:=λ_ _=>A0
def t80(p q:Aa):IT:=
 .Dm p 0 λ_ _ a=>.ea 13 [a,q] λb=>.fl b 1 λ_ c=>.iq [c,I 0] λd=>.AX d (.Dm p 0 λ_ _ e=>.ea 13 [e,q] λf=>.fl f 1 λ_ h=>.rr [h]) (.Dm p 0 λ_ _ j=>.ea 13 [j,q] λk=>.fl k 12 λ_ m=>.rr [m])
def vn:GG cx 80 t80:=λ_ _=>A0
def t81(p q:Aa):IT:=
 .il [q,I 0] λa=>.AX a (.op (.B4 [I 0,I 0,S [],ff] []) [] λb=>.cells 4 b λc=>.rr [a4 c]) (.ca 82 [p] λd=>.ih [q,d] λe=>.AX e (.op (.B4 [I 0,I 0,S [],ff] []) [] λf=>.cells 4 f λh=>.rr [a4 h]) (.Dm p 0 λ_ _ j=>.ea 4 [j,q] λk=>.load (some 4) k λm=>.cells 4 m λn=>.rr [a4 n]))
def vD:GG cx 81 t81:=λ_ _=>A0
def t82(p:Aa):IT:=
 .op (.Te false) [p,.ptr none] λa=>.AX a (.rr [I 0]) (.Dm p 0 λ_ _ b=>.ln [b] λc=>.rr [c])
def vE:JG cx 82 t82:=λ_=>A0
def t84(p q:Aa):IT:=
 .ca 56 [p,q] λa=>.nt [a] λb=>.AX b (.rr [.slnil]) (.ca 55 [p,q] λc=>.fa c 0 λ_ d=>.fl d 2 λ_ e=>.ca 77 [e] λf=>.rr [f])
def fS:GG cx 84 t84:=λ_ _=>A0
end Go.Am
