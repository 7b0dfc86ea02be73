/- Lemmas -/
import Derived.Test.YtbkijlifflhdiaaGreatDoorV9
import Derived.Test.YtbkijlifflhdiaaGreatDoorV18
set_option linter.all false
namespace Go.Am
open Go
def t37(p:Aa):IT:=
 .ca 82 [p] λa=>.ib [a,I 1] λb=>.ca 81 [p,b] λc=>.cells 4 c λd=>.rr [a4 d]
def tE:KC cx 37 t37:=λ_=>AQ
def t38(p q r:Aa):IT:=
 .op (.RW false) [p,.ptr none] λa=>.A4 a (.rr [I 1]) (.ln [r] λb=>.loop 4 [I 0,I 0] (λc=>.il [g c 1,b] λd=>.A4 d (.ea 1 [r,g c 1] λe=>.ld e λf=>.ie [f,I 0] λh=>.A4 h (.ie [g c 1,q] λj=>.A4 j (.ia [g c 1,I 1] λk=>.rn [g c 0,k]) (.ca 21 [p,f] λm=>.op (.ext 0) [m] λn=>.op (.ext 1) [m] λo=>.cells 13 n λ_=>.iq [o,I 0] λs=>.A4 s (.rr [o,g c 1]) (.ia [g c 1,I 1] λu=>.rn [g c 0,u]))) (.ca 21 [p,f] λw=>.op (.ext 0) [w] λy=>.op (.ext 1) [w] λz=>.cells 13 y λ_=>.iq [z,I 0] λa0=>.A4 a0 (.rr [z,g c 1]) (.ia [g c 1,I 1] λa1=>.rn [g c 0,a1]))) (.rx 0 [g c 0,g c 1])) (lx 0 (λa2=>.rr [I 0]) λa2=>.rr [g a2 0]))
def ph:Pm cx 38 t38:=λ_ _ _=>AQ
def t39(p q:Aa):IT:=
 .cells 1 p λa=>.alloc 1 i0 λb=>.alloc 1 (S []) λc=>.store 1 b i0 (.store 1 c (S []) (.ld (.Cb [g a 0]) λd=>.ca 84 [d,q] λe=>.ln [e] λf=>.loop 4 [I 0] (λh=>.il [g h 0,f] λj=>.A4 j (.ea 1 [e,g h 0] λk=>.ld k λm=>.ld (.Cb [g a 0]) λn=>.ca 21 [n,m] λo=>.op (.ext 0) [o] λs=>.op (.ext 1) [o] λ_=>.cells 13 s λu=>.iq [g u 0,I 5] λw=>.A4 w (.EK (.func (.func 83) [] [b,.Cb [g a 0],c]) [] λ_=>.ia [g h 0,I 1] λy=>.rn [y]) (.ld b λz=>.ie [z,I 0] λa0=>.A4 a0 (.op (.str .neq) [g u 7,S []] λa1=>.A4 a1 (.store 1 b m (.store 1 c (g u 7) (.ia [g h 0,I 1] λa2=>.rn [a2]))) (.ld c λa5=>.op (.str .add) [a5,g u 7] λa7=>.store 1 c a7 (.ld (.Cb [g a 0]) λa8=>.ca 85 [a8,m] λ_=>.ia [g h 0,I 1] λb0=>.rn [b0]))) (.ld c λb1=>.op (.str .add) [b1,g u 7] λb2=>.store 1 c b2 (.ld (.Cb [g a 0]) λb3=>.ca 85 [b3,m] λ_=>.ia [g h 0,I 1] λb4=>.rn [b4])))) (.rx 0 [g h 0])) (lx 0 (λb5=>.EK (.func (.func 83) [] [b,.Cb [g a 0],c]) [] λ_=>.rr [.tuple []]) λb5=>.rr [.tuple []])))
def pj:F7 cx 39 t39:=λ_ _=>AQ
def t41(p q:Aa):IT:=
 .cells 13 p λa=>.cells 13 q λb=>.ca 88 [yI a,yI b] λc=>.A4 c (.ca 89 [g a 2,g b 2] λd=>.A4 d (.ie [g a 1,g b 1] λe=>.A4 e (.ie [g a 3,g b 3] λf=>.A4 f (.ie [g a 11,g b 11] λh=>.A4 h (.ie [g a 12,g b 12] λj=>.rr [j]) (.rr [ff])) (.rr [ff])) (.rr [ff])) (.rr [ff])) (.rr [ff])
def pk:F7 cx 41 t41:=λ_ _=>AQ
def t42:IT:=
 .op (.B4 [.slnil,.map none] []) [] λa=>.alloc 2 a λb=>.rr [b]
def tF:BK cx 42 []=t42:=AQ
def ř(p q:Aa):IT:=
 .op (.RW false) [p,.ptr none] λa=>.A4 a (.rr [I 0]) (.op (.B4 [I 0,I 0,.slnil,I 0,I 0,S [],.slnil,S [],S [],S [],ff,I 0,I 0] [(0,1),(10,1)]) [I 1,q] λb=>.ca 90 [p,b] λc=>.ca 55 [p,c] λd=>.fa d 0 λ_ e=>.op (.FE 3) [e] λf=>.store 1 f c (.rr [c]))
def dU:F7 cx 43 ř:=λ_ _=>AQ
def vp(p q r:Aa):IT:=
 .cells 5 r λa=>.ca 45 [p,q] λb=>.op (.RW false) [b,.ptr none] λc=>.A4 c (.rr [.ptr none]) (.op (.B4 [I 0,S [],ff,S [],ff,S [],ff,ff,.slnil,ff,S [],.int .i32 0] [(0,1),(1,1)]) [I 2,S aJv] λd=>.ca 76 [b,d,I 1,q] λe=>.cells 4 e λf=>.ca 53 [b,g f 0,q,I 0] λ_=>.fa b 2 λ_ h=>.ca 91 [h,a4 f] λ_=>.fa b 9 λ_ j=>.store 1 j tt (.ca 92 [g a 0,g a 1,g a 2] λk=>.op (.B4 [I 0,I 0,S [],ff] [(1,1),(2,1),(3,1)]) [g a 0,g a 1,k] λm=>.fa b 10 λ_ n=>.store 4 n m (.fa b 10 λ_ o=>.load (some 4) o λs=>.op (.Cd 1) [S aJq] λu=>.ca 93 [s,u] λw=>.A4 w (.op (.Cd 1) [I 18] λy=>.fa b 6 λ_ z=>.store 1 z y (.ca 67 [b] λ_=>.A4 (g a 4) (.fa b 8 λ_ a0=>.store 1 a0 (I (-1)) (.rr [b])) (.rr [b]))) (.ca 67 [b] λ_=>.A4 (g a 4) (.fa b 8 λ_ a1=>.store 1 a1 (I (-1)) (.rr [b])) (.rr [b])))))
def T1:Pm cx 44 vp:=λ_ _ _=>AQ
def t45(p q:Aa):IT:=
 .ca 21 [p,q] λa=>.op (.ext 0) [a] λb=>.op (.ext 1) [a] λc=>.cells 13 b λd=>.iq [c,I 0] λe=>.A4 e (.rr [.ptr none]) (.iq [g d 0,I 1] λf=>.A4 f (.rr [.ptr none]) (.op (.B4 [.ptr none,I 0,.slnil,.slnil,I 0,I 0,.slnil,I 0,I 0,ff,I 0,I 0,S [],ff,ff,ff,S [],ff,I 0,ff] [(0,1),(1,1),(4,1),(14,1)]) [p,q,I 1,tt] λh=>.alloc 20 h λj=>.rr [j]))
def tG:F7 cx 45 t45:=λ_ _=>AQ
def t46(p q r:Aa):IT:=
 .cells 12 q λa=>.ca 25 [p] λb=>.nt [b] λc=>.A4 c (.rr [I 0]) (.ca 94 [p,.func (.func 76) [p] [],gh a,r] λd=>.rr [d])
def tH:Pm cx 46 t46:=λ_ _ _=>AQ
def Ś(p q:Aa):IT:=
 .ca 25 [p] λa=>.nt [a] λb=>.A4 b (.rr [.tuple [I 0,I 0]]) (.ie [q,I 0] λc=>.EM 100012 (.A4 c (.fa p 2 λ_ d=>.ca 82 [d] λe=>.ie [e,I 0] λf=>.A4 f (.E4 p 1 λ_ _ h=>.rr [q,h,I 0]) (.ca 14 [p] λj=>.op (.part 0 none) [j] λk=>.rn [k,I 0,I 0])) (.rn [q,I 0,I 0])) (nx (λm=>.ca 48 [p,g m 0] λn=>.cells 13 n λo=>.EM 200009 (.E4 p 15 λ_ _ s=>.A4 s (.ie [g o 0,I 4] λu=>.A4 u (.op (.B4 [I 0,I 0,S [],ff] [(1,1),(2,1)]) [g o 4,g o 5] λw=>.op (.Cd 1) [S aJs,S aJI,S aJE,S aJJ,S [116,114]] λy=>.ca 93 [w,y] λz=>.rn [z]) (.rn [ff])) (.rn [ff])) (nx (λa0=>.EM 100046 (.A4 (g a0 0) (.ca 95 [p] λa1=>.op (.ext 0) [a1] λa2=>.op (.ext 1) [a1] λa5=>.rn [a2,a5]) (.rn [g m 0,g m 2])) (nx (λa7=>.ca 48 [p,g a7 0] λa8=>.cells 13 a8 λb0=>.iq [g b0 11,I 0] λb1=>.A4 b1 (.rr [.tuple [g b0 11,I 0]]) (.rr [.tuple [g a7 0,g a7 1]])) λa7=>.rr [.tuple [g a7 0,g a7 1]])) λa0=>.rr [.tuple [g m 0,g m 2]])) λm=>.rr [.tuple [g m 1,g m 2]]))
def dV:F7 cx 47 Ś:=λ_ _=>AQ
def t48(p q:Aa):IT:=
 .E4 p 0 λ_ _ a=>.ca 21 [a,q] λb=>.op (.ext 0) [b] λc=>.op (.ext 1) [b] λ_=>.cells 13 c λd=>.cells 13 (yI d) λe=>.rr [yI e]
def tI:F7 cx 48 t48:=λ_ _=>AQ
def t49(p q:Aa):IT:=
 .ln [p] λa=>.loop 2 [I 0,I 0] (λb=>.il [g b 1,a] λc=>.A4 c (.ea 1 [p,g b 1] λd=>.ld d λe=>.ie [q,e] λf=>.A4 f (.rr [g b 1,g b 1]) (.ia [g b 1,I 1] λh=>.rn [g b 0,h])) (.rx 0 [g b 0,g b 1])) (lx 0 (λj=>.rr [I (-1)]) λj=>.rr [g j 0])
def tJ:F7 cx 49 t49:=λ_ _=>AQ
def t50(p q:Aa):IT:=
 .op (.conv .u32) [q] λa=>.ik [a,.int .u32 127] λb=>.A4 b (.op (.conv .u8) [q] λc=>.op (.Cd 1) [c] λd=>.FG 1 1 p d λe=>.rr [e]) (.ca 96 [p,q] λf=>.rr [f])
def tK:F7 cx 50 t50:=λ_ _=>AQ
def t51(p q r:Aa):IT:=
 .op (.Cd 1) [q] λa=>.ca 54 [p,a] λb=>.iq [b,I 0] λc=>.A4 c (.rr [b]) (.ca 55 [p,q] λd=>.fa d 0 λ_ e=>.fl e 0 λ_ f=>.iq [f,I 5] λh=>.A4 h (.fa d 0 λ_ j=>.fl j 0 λ_ k=>.iq [k,I 6] λm=>.A4 m (.rr [I 9]) (.fa d 0 λ_ n=>.op (.FE 7) [n] λo=>.store 1 o r (.rr [I 0]))) (.fa d 0 λ_ s=>.op (.FE 7) [s] λu=>.store 1 u r (.rr [I 0])))
def tL:Pm cx 51 t51:=λ_ _ _=>AQ
def t52(p q r:Aa):IT:=
 .op (.B4 [I 0,I 0,.slnil,I 0,I 0,S [],.slnil,S [],S [],S [],ff,I 0,I 0] [(0,1),(7,1)]) [I 5,r] λa=>.ca 97 [p,q,a] λb=>.op (.ext 0) [b] λc=>.op (.ext 1) [b] λd=>.rr [.tuple [c,d]]
def tM:Pm cx 52 t52:=λ_ _ _=>AQ
def t53(p q r u:Aa):IT:=
 .cells 1 p λa=>.ca 48 [g a 0,r] λb=>.op (.part 0 none) [b] λc=>.ie [c,I 1] λd=>.A4 d (.ca 48 [g a 0,q] λe=>.op (.part 0 none) [e] λf=>.ie [f,I 4] λh=>.A4 h (.E4 (g a 0) 0 λ_ _ j=>.ca 84 [j,r] λk=>.ca 98 [k,.func (.func 99) [] [.Cb [g a 0]]] λm=>.A4 m (.rr [.tuple []]) (.ld (.Cb [g a 0]) λn=>.E4 n 0 λ_ _ o=>.ca 100 [o,r,q,u] λ_=>.rr [.tuple []])) (.E4 (g a 0) 0 λ_ _ s=>.ca 100 [s,r,q,u] λ_=>.rr [.tuple []])) (.E4 (g a 0) 0 λ_ _ w=>.ca 100 [w,r,q,u] λ_=>.rr [.tuple []])
def T2:zr cx 53 t53:=λ_ _ _ _=>AQ
def t54(p q:Aa):IT:=
 .op (.RW false) [p,.ptr none] λa=>.A4 a (.rr [I 1]) (.ln [q] λb=>.loop 4 [I 0,I 0] (λc=>.il [g c 1,b] λd=>.A4 d (.ea 1 [q,g c 1] λe=>.ld e λf=>.ca 56 [p,f] λh=>.nt [h] λj=>.A4 j (.rr [I 3,g c 1]) (.ia [g c 1,I 1] λk=>.rn [g c 0,k])) (.rx 0 [g c 0,g c 1])) (lx 0 (λm=>.rr [I 0]) λm=>.rr [g m 0]))
def tN:F7 cx 54 t54:=λ_ _=>AQ
def ś(p q:Aa):IT:=
 .E4 p 0 λ_ _ a=>.ib [q,I 1] λb=>.ea 13 [a,b] λc=>.rr [c]
def dW:F7 cx 55 ś:=λ_ _=>AQ
def t56(p q:Aa):IT:=
 .op (.RW true) [p,.ptr none] λa=>.A4 a (.ih [q,I 1] λb=>.A4 b (.E4 p 0 λ_ _ c=>.ln [c] λd=>.ik [q,d] λe=>.rr [e]) (.rr [ff])) (.rr [ff])
def tO:F7 cx 56 t56:=λ_ _=>AQ
def t59(p:Aa):IT:=
 .cells 9 p λa=>.op (.append 3 40) [.slnil,g a 2] λb=>.op (.B4 [I 0,S [],ff,S [],ff,S [],ff,ff,.slnil,ff,S [],.int .i32 0] [(0,1),(1,1),(8,1)]) [I 2,g a 1,b] λc=>.cells 12 c λd=>.rr [gh d]
def pq:KC cx 59 t59:=λ_=>AQ
def t60(p q:Aa):IT:=
 .cells 12 q λa=>.ca 19 [p,gh a] λb=>.iq [b,I 0] λc=>.A4 c (.fa p 3 λ_ d=>.op (.B4 [I 0,S [],.slnil] [(0,1),(1,1),(2,1)]) [b,g a 1,g a 8] λe=>.ca 105 [d,e] λ_=>.rr [b]) (.rr [b])
def pt:F7 cx 60 t60:=λ_ _=>AQ
def t61(p q r:Aa):IT:=
 .ca 25 [p] λa=>.nt [a] λb=>.A4 b (.rr [.tuple []]) (.ie [r,I 0] λc=>.EM 100014 (.A4 c (.ca 47 [p,I 0] λd=>.op (.ext 0) [d] λe=>.op (.ext 1) [d] λf=>.rn [e,f]) (.rn [r,I 0])) (nx (λh=>.ca 48 [p,g h 0] λj=>.cells 13 j λk=>.EM 200005 (.iq [g k 0,I 1] λm=>.A4 m (.iq [g k 0,I 2] λn=>.A4 n (.iq [g k 0,I 4] λo=>.rn [o]) (.rn [ff])) (.rn [ff])) (nx (λs=>.A4 (g s 0) (.rr [.tuple []]) (.E4 p 0 λ_ _ u=>.ca 106 [u,g k 3,q] λw=>.op (.ext 0) [w] λy=>.op (.ext 1) [w] λz=>.ie [z,I 0] λa0=>.EM 100048 (.A4 a0 (.ca 53 [p,y,g h 0,g h 1] λ_=>.rn []) (.rn [])) (nx (λa1=>.rr [.tuple []]) λa1=>.rr [.tuple []]))) λs=>.rr [.tuple []])) λh=>.rr [.tuple []]))
def tP:Pm cx 61 t61:=λ_ _ _=>AQ
def t62(p q r:Aa):IT:=
 .cells 12 q λa=>.ca 25 [p] λb=>.A4 b (.ca 19 [p,gh a] λ_=>.E4 p 4 λ_ _ c=>.fa p 18 λ_ d=>.store 1 d r (.fa p 5 λ_ e=>.store 1 e c (.fa p 4 λ_ f=>.store 1 f (I 8) (.rr [.tuple []])))) (.rr [.tuple []])
def pv:Pm cx 62 t62:=λ_ _ _=>AQ
def t63(p:Aa):IT:=
 .ca 25 [p] λa=>.A4 a (.fa p 2 λ_ b=>.op (.Cd 1) [S [112]] λc=>.ca 107 [b,I 3,c] λd=>.A4 d (.fa p 2 λ_ e=>.ca 108 [e,S [112]] λ_=>.fa p 2 λ_ f=>.op (.Cd 1) [S [112]] λh=>.ca 75 [f,h] λ_=>.rr [.tuple []]) (.rr [.tuple []])) (.rr [.tuple []])
def tQ:KC cx 63 t63:=λ_=>AQ
def t64(p:Aa):IT:=
 .ca 25 [p] λa=>.nt [a] λb=>.A4 b (.HA 3 p (.rr [.tuple []])) (.fa p 3 λ_ c=>.fl c 0 λ_ d=>.ln [d] λe=>.loop 2 [e] (λf=>.ig [g f 0,I 0] λh=>.A4 h (.fa p 3 λ_ j=>.fl j 0 λ_ k=>.ib [g f 0,I 1] λm=>.ea 3 [k,m] λn=>.fl n 0 λ_ o=>.iq [o,I 0] λs=>.A4 s (.fa p 2 λ_ u=>.fa p 3 λ_ w=>.fl w 0 λ_ y=>.ib [g f 0,I 1] λz=>.ea 3 [y,z] λa0=>.fl a0 0 λ_ a1=>.ca 109 [u,a1] λa2=>.il [a2,I 0] λa5=>.A4 a5 (.ib [g f 0,I 1] λa7=>.rn [a7]) (.rx 0 [g f 0])) (.rx 0 [g f 0])) (.rx 0 [g f 0])) (lx 0 (λa8=>.fa p 3 λ_ b0=>.fl b0 0 λ_ b1=>.ca 110 [b1] λb2=>.fa p 3 λ_ b3=>.op (.FE 0) [b3] λb4=>.store 1 b4 b2 (.loop 5 [g a8 0] (λb5=>.fa p 3 λ_ b6=>.fl b6 0 λ_ b7=>.ln [b7] λb8=>.il [g b5 0,b8] λb9=>.A4 b9 (.fa p 3 λ_ c0=>.fl c0 0 λc1 c2=>.fa p 3 λ_ c3=>.fl c3 0 λ_ c4=>.ea 3 [c4,g b5 0] λc5=>.load (some 3) c5 λc6=>.ca 111 [c6] λc8=>.ld c1 λc9=>.same c2 c9 (.ca 19 [p,c8] λd0=>.ld c1 λd1=>.same c2 d1 (.ea 3 [c2,g b5 0] λd2=>.op (.FE 0) [d2] λd3=>.store 1 d3 d0 (.ia [g b5 0,I 1] λd4=>.rn [d4])))) (.rx 2 [g b5 0])) (lx 2 (λd5=>.HA 3 p (.rr [.tuple []])) λd5=>.HA 3 p (.rr [.tuple []])))) λa8=>.HA 3 p (.rr [.tuple []])))
def px:KC cx 64 t64:=λ_=>AQ
def t65(p q:Aa):IT:=
 .ca 25 [p] λa=>.nt [a] λb=>.A4 b (.rr [.tuple []]) (.fa p 2 λ_ c=>.ca 82 [c] λd=>.ib [d,I 1] λe=>.loop 2 [e] (λf=>.ih [g f 0,I 0] λh=>.A4 h (.fa p 2 λ_ j=>.ca 81 [j,g f 0] λk=>.cells 4 k λm=>.op (.Cd 1) [q] λn=>.ca 93 [a4 m,n] λo=>.A4 o (.fa p 2 λ_ s=>.ca 108 [s,q] λ_=>.fa p 2 λ_ u=>.ca 112 [u,g m 0] λ_=>.rr [g f 0]) (.Ck 113 [g m 1,g m 2] λw=>.A4 w (.rr [g f 0]) (.ib [g f 0,I 1] λy=>.rn [y]))) (.rx 0 [g f 0])) (lx 0 (λz=>.rr [.tuple []]) λz=>.rr [.tuple []]))
def py:F7 cx 65 t65:=λ_ _=>AQ
def t66(p q:Aa):IT:=
 .ca 25 [p] λa=>.nt [a] λb=>.A4 b (.rr [.tuple []]) (.ca 14 [p] λc=>.cells 4 c λd=>.op (.Cd 1) [q] λe=>.ca 93 [a4 d,e] λf=>.A4 f (.fa p 3 λ_ h=>.ca 114 [h,g d 0] λj=>.il [j,I 0] λk=>.A4 k (.fa p 2 λ_ m=>.ca 73 [m] λ_=>.rr [.tuple []]) (.loop 5 [I 0] (λn=>.il [g n 0,I 8] λo=>.A4 o (.ca 115 [p,q] λs=>.nt [s] λu=>.A4 u (.rr [g n 0]) (.ia [g n 0,I 1] λw=>.rn [w])) (.rx 0 [g n 0])) (lx 0 (λy=>.rr [.tuple []]) λy=>.rr [.tuple []]))) (.loop 5 [I 0] (λz=>.il [g z 0,I 8] λa0=>.A4 a0 (.ca 115 [p,q] λa1=>.nt [a1] λa2=>.A4 a2 (.rr [g z 0]) (.ia [g z 0,I 1] λa5=>.rn [a5])) (.rx 0 [g z 0])) (lx 0 (λa7=>.rr [.tuple []]) λa7=>.rr [.tuple []])))
def tR:F7 cx 66 t66:=λ_ _=>AQ
def t67(p:Aa):IT:=
 .ca 25 [p] λa=>.nt [a] λb=>.A4 b (.rr [.tuple []]) (.fa p 4 λ_ c=>.store 1 c (I 7) (.fa p 2 λ_ d=>.ca 82 [d] λe=>.ib [e,I 1] λf=>.loop 3 [f] (λh=>.ih [g h 0,I 0] λj=>.A4 j (.fa p 2 λ_ k=>.ca 81 [k,g h 0] λm=>.cells 4 m λn=>.ie [g h 0,I 0] λo=>.A4 o (.E4 p 9 λ_ _ s=>.A4 s (.fa p 10 λ_ u=>.load (some 4) u λw=>.cells 4 w λy=>.ca 116 [p,a4 y,g h 0] λz=>.op (.ext 0) [z] λa0=>.op (.ext 1) [z] λa1=>.A4 a1 (.fa p 4 λ_ a2=>.store 1 a2 a0 (.rr [g h 0])) (.ib [g h 0,I 1] λa5=>.rn [a5])) (.ca 116 [p,a4 n,g h 0] λa7=>.op (.ext 0) [a7] λa8=>.op (.ext 1) [a7] λb0=>.A4 b0 (.fa p 4 λ_ b1=>.store 1 b1 a8 (.rr [g h 0])) (.ib [g h 0,I 1] λb2=>.rn [b2]))) (.ca 116 [p,a4 n,g h 0] λb3=>.op (.ext 0) [b3] λb4=>.op (.ext 1) [b3] λb5=>.A4 b5 (.fa p 4 λ_ b6=>.store 1 b6 b4 (.rr [g h 0])) (.ib [g h 0,I 1] λb7=>.rn [b7]))) (.rx 0 [g h 0])) (lx 0 (λb8=>.rr [.tuple []]) λb8=>.rr [.tuple []])))
def tS:KC cx 67 t67:=λ_=>AQ
def t68(p q r:Aa):IT:=
 .cells 12 q λa=>.ca 25 [p] λb=>.nt [b] λc=>.A4 c (.rr [.tuple []]) (.ca 48 [p,r] λd=>.op (.part 0 none) [d] λe=>.iq [e,I 4] λf=>.A4 f (.rr [.tuple []]) (.ca 48 [p,r] λh=>.op (.part 6 none) [h] λj=>.ln [g a 8] λk=>.loop 4 [j,I 0] (λm=>.il [g m 1,k] λn=>.A4 n (.ea 3 [g a 8,g m 1] λo=>.load (some 3) o λs=>.cells 3 s λu=>.ca 117 [g m 0,.func (.func 118) [] [.Cb [g u 0,g u 1,g u 2]]] λw=>.nt [w] λy=>.A4 y (.fl (.Cb [g u 0,g u 1,g u 2]) 1 λ_ z=>.fl (.Cb [g u 0,g u 1,g u 2]) 2 λ_ a0=>.op (.B4 [I 0,S [],S []] [(1,1),(2,1)]) [z,a0] λa1=>.op (.Cd 3) [a1] λa2=>.FG 3 40 (g m 0) a2 λa5=>.ia [g m 1,I 1] λa7=>.rn [a5,a7]) (.ia [g m 1,I 1] λa8=>.rn [g m 0,a8])) (.rx 0 [g m 0,g m 1])) (lx 0 (λb0=>.E4 p 0 λ_ _ b1=>.ca 119 [b1,r,g b0 0] λ_=>.rr [.tuple []]) λb0=>.rr [.tuple []])))
def tT:Pm cx 68 t68:=λ_ _ _=>AQ
def Ŝ(p:Aa):IT:=
 .ca 25 [p] λa=>.nt [a] λb=>.A4 b (.rr [.tuple []]) (.fa p 2 λ_ c=>.ca 120 [c,S aJq] λd=>.il [d,I 0] λe=>.A4 e (.rr [.tuple []]) (.fa p 2 λ_ f=>.ca 121 [f] λ_=>.fa p 2 λ_ h=>.op (.Cd 1) [S aJq] λj=>.ca 75 [h,j] λ_=>.fa p 3 λ_ k=>.ca 74 [k] λ_=>.E4 p 6 λ_ _ m=>.ln [m] λn=>.ig [n,I 0] λo=>.A4 o (.E4 p 6 λ_ _ s=>.ib [n,I 1] λu=>.op (.P4 1 false false true) [s,u] λw=>.ca 26 [w] λy=>.fa p 6 λ_ z=>.store 1 z y (.ca 67 [p] λ_=>.rr [.tuple []])) (.ca 67 [p] λ_=>.rr [.tuple []])))
def dX:KC cx 69 Ŝ:=λ_=>AQ
def t70(p:Aa):IT:=
 .ca 25 [p] λa=>.A4 a (.fa p 19 λ_ b=>.store 1 b tt (.rr [.tuple []])) (.rr [.tuple []])
def pz:KC cx 70 t70:=λ_=>AQ
def t71(p:Aa):IT:=
 .op (.RW true) [p,.ptr none] λa=>.A4 a (.E4 p 0 λ_ _ b=>.op (.B4 [I 0,S [],.slnil] []) [] λc=>.E4 p 0 λ_ _ d=>.ln [d] λe=>.ca 122 [b,c,e] λf=>.fa p 0 λ_ h=>.store 1 h f (.rr [.tuple []])) (.rr [.tuple []])
def p_:KC cx 71 t71:=λ_=>AQ
def t72(p:Aa):IT:=
 .cells 4 p λa=>.op (.B4 [I 0,I 0,S [],ff] [(0,1),(1,1),(2,1),(3,1)]) [g a 0,g a 1,g a 2,g a 3] λb=>.cells 4 b λc=>.rr [a4 c]
def qa:KC cx 72 t72:=λ_=>AQ
def ŝ(p:Aa):IT:=
 .ca 82 [p] λa=>.il [a,I 2] λb=>.A4 b (.op (.B4 [I 0,I 0,S [],ff] []) [] λc=>.cells 4 c λd=>.rr [a4 d]) (.ca 37 [p] λe=>.cells 4 e λf=>.E4 p 0 λ_ _ h=>.E4 p 0 λ_ _ j=>.ln [j] λk=>.ib [k,I 1] λm=>.op (.P4 4 false false true) [h,m] λn=>.fa p 0 λ_ o=>.store 1 o n (.cells 4 (a4 f) λs=>.rr [a4 s]))
def dY:KC cx 73 ŝ:=λ_=>AQ
def t74(p:Aa):IT:=
 .op (.RW false) [p,.ptr none] λa=>.A4 a (.rr [I 0]) (.E4 p 0 λ_ _ b=>.ln [b] λc=>.E4 p 0 λ_ d e=>.ca 123 [p] λf=>.ld d λh=>.same e h (.ib [f,I 1] λj=>.op (.Jt true) [j,I 0] λk=>.op (.P4 3 false false true) [e,k] λm=>.fa p 0 λ_ n=>.store 1 n m (.E4 p 0 λ_ _ o=>.ln [o] λs=>.ib [c,s] λu=>.rr [u])))
def qb:KC cx 74 t74:=λ_=>AQ
def t75(p q:Aa):IT:=
 .cells 1 q λa=>.ca 124 [p,.func (.func 125) [] [],.func (.func 126) [] [.Cb [g a 0]]] λb=>.rr [b]
def qc:F7 cx 75 t75:=λ_ _=>AQ
def t76(p q r u:Aa):IT:=
 .cells 12 q λa=>.EM 200001 (.ca 25 [p] λb=>.nt [b] λc=>.A4 c (.rn [tt]) (.il [r,I 0] λd=>.A4 d (.rn [tt]) (.ig [r,I 7] λe=>.rn [e]))) (nx (λf=>.A4 (g f 0) (.op (.B4 [I 0,I 0,S [],ff] []) [] λh=>.cells 4 h λj=>.rr [a4 j]) (.ca 128 [r,g a 8] λk=>.ie [r,I 2] λm=>.EM 100032 (.A4 m (.Ck 129 [g a 1] λn=>.rn [n]) (.rn [g a 1])) (nx (λo=>.E4 p 0 λ_ s w=>.ca 131 [p,u] λy=>.ld s λz=>.same w z (.ca 130 [w,y,r,g o 0,k] λa0=>.op (.ext 0) [a0] λa1=>.op (.ext 1) [a0] λa2=>.iq [a2,I 0] λa5=>.A4 a5 (.op (.B4 [I 0,I 0,S [],ff] []) [] λa7=>.cells 4 a7 λa8=>.rr [a4 a8]) (.ca 92 [r,g o 0,k] λb0=>.op (.B4 [I 0,I 0,S [],ff] [(0,1),(1,1),(2,1),(3,1)]) [a1,r,g o 0,b0] λb1=>.cells 4 b1 λb2=>.rr [a4 b2]))) λo=>.rr [.agg [I 0,I 0,S [],ff]]))) λf=>.rr [.agg [I 0,I 0,S [],ff]])
def dZ:zr cx 76 t76:=λ_ _ _ _=>AQ
def Ş(p:Aa):IT:=
 .op (.FN false .sl) [p,.slnil] λa=>.A4 a (.rr [.slnil]) (.op (.Cd 1) [] λb=>.Fk 1 8 b p λc=>.rr [c])
def eA:KC cx 77 Ş:=λ_=>AQ
def t81(p q:Aa):IT:=
 .il [q,I 0] λa=>.A4 a (.op (.B4 [I 0,I 0,S [],ff] []) [] λb=>.cells 4 b λc=>.rr [a4 c]) (.ca 82 [p] λd=>.ih [q,d] λe=>.A4 e (.op (.B4 [I 0,I 0,S [],ff] []) [] λf=>.cells 4 f λh=>.rr [a4 h]) (.E4 p 0 λ_ _ j=>.ea 4 [j,q] λk=>.load (some 4) k λm=>.cells 4 m λn=>.rr [a4 n]))
def tU:F7 cx 81 t81:=λ_ _=>AQ
def t82(p:Aa):IT:=
 .op (.RW false) [p,.ptr none] λa=>.A4 a (.rr [I 0]) (.E4 p 0 λ_ _ b=>.ln [b] λc=>.rr [c])
def tV:KC cx 82 t82:=λ_=>AQ
def t83(p q r:Aa):IT:=
 .ld p λa=>.iq [a,I 0] λb=>.A4 b (.ld q λc=>.ld p λd=>.ld r λe=>.ca 51 [c,d,e] λ_=>.store 1 p i0 (.store 1 r (S []) (.rr [.tuple []]))) (.store 1 p i0 (.store 1 r (S []) (.rr [.tuple []])))
def tW:Pm cx 83 t83:=λ_ _ _=>AQ
def ş(p q:Aa):IT:=
 .ca 56 [p,q] λa=>.nt [a] λb=>.A4 b (.rr [.slnil]) (.ca 55 [p,q] λc=>.fa c 0 λ_ d=>.fl d 2 λ_ e=>.ca 77 [e] λf=>.rr [f])
def eC:F7 cx 84 ş:=λ_ _=>AQ
def t88(p q:Aa):IT:=
 .cells 13 p λa=>.cells 13 q λb=>.ie [g a 0,g b 0] λc=>.A4 c (.ie [g a 4,g b 4] λd=>.A4 d (.se [g a 5,g b 5] λe=>.A4 e (.ca 133 [g a 6,g b 6] λf=>.A4 f (.se [g a 7,g b 7] λh=>.A4 h (.se [g a 8,g b 8] λj=>.A4 j (.se [g a 9,g b 9] λk=>.A4 k (.op (.beq false) [g a 10,g b 10] λm=>.rr [m]) (.rr [ff])) (.rr [ff])) (.rr [ff])) (.rr [ff])) (.rr [ff])) (.rr [ff])) (.rr [ff])
def qd:F7 cx 88 t88:=λ_ _=>AQ
def t89(p q:Aa):IT:=
 .ln [p] λa=>.ln [q] λb=>.iq [a,b] λc=>.A4 c (.rr [ff]) (.loop 4 [ff,I 0] (λd=>.ln [p] λe=>.il [g d 1,e] λf=>.A4 f (.ea 1 [p,g d 1] λh=>.ld h λj=>.ea 1 [q,g d 1] λk=>.ld k λm=>.iq [j,m] λn=>.A4 n (.rr [ff,g d 1]) (.ia [g d 1,I 1] λo=>.rn [g d 0,o])) (.rx 0 [g d 0,g d 1])) (lx 0 (λs=>.rr [tt]) λs=>.rr [g s 0]))
def qe:F7 cx 89 t89:=λ_ _=>AQ
def Š(p q:Aa):IT:=
 .cells 13 q λa=>.E4 p 0 λ_ _ b=>.op (.B4 [I 0,I 0,.slnil,I 0,I 0,S [],.slnil,S [],S [],S [],ff,I 0,I 0] [(0,13)]) [yI a] λc=>.op (.Cd 13) [c] λd=>.FG 13 168 b d λe=>.fa p 0 λ_ f=>.store 1 f e (.E4 p 0 λ_ _ h=>.ln [h] λj=>.rr [j])
def eD:F7 cx 90 Š:=λ_ _=>AQ
end Go.Am
