/- Lemmas -/
import Derived.Test.YtemolpggcmbieaaGreatDoorZ9
import Derived.Test.YtemolpggcmbieaaGreatDoorZ18
set_option linter.all false
namespace Go.Am
open Go
def t37(p q r:Aa):IT:=
 .cells 5 r λa=>.ca 38 [p,q] λb=>.op (.Ru false) [b,.ptr none] λc=>.AH c (.rr [.ptr none]) (.op (.BV [I 0,S [],ff,S [],ff,S [],ff,ff,.slnil,ff,S [],.int .i32 0] [(0,1),(1,1)]) [I 2,S aTu] λd=>.ca 59 [b,d,I 1,q] λe=>.cells 4 e λf=>.ca 97 [b,g f 0,q,I 0] λ_=>.fa b 2 λ_ h=>.ca 98 [h,a4 f] λ_=>.fa b 9 λ_ j=>.store 1 j tt (.ca 99 [g a 0,g a 1,g a 2] λk=>.op (.BV [I 0,I 0,S [],ff] [(1,1),(2,1),(3,1)]) [g a 0,g a 1,k] λm=>.fa b 10 λ_ n=>.store 4 n m (.fa b 10 λ_ o=>.load (some 4) o λs=>.op (.Cl 1) [S aTv] λu=>.ca 100 [s,u] λw=>.AH w (.op (.Cl 1) [I 18] λy=>.fa b 6 λ_ z=>.store 1 z y (.ca 50 [b] λ_=>.AH (g a 4) (.fa b 8 λ_ a0=>.store 1 a0 (I (-1)) (.rr [b])) (.rr [b]))) (.ca 50 [b] λ_=>.AH (g a 4) (.fa b 8 λ_ a1=>.store 1 a1 (I (-1)) (.rr [b])) (.rr [b])))))
def bZ:Q3 cx 37 t37:=λ_ _ _=>AF
def t38(p q:Aa):IT:=
 .ca 101 [p,q] λa=>.op (.ext 0) [a] λb=>.op (.ext 1) [a] λc=>.cells 13 b λd=>.iq [c,I 0] λe=>.AH e (.rr [.ptr none]) (.iq [g d 0,I 1] λf=>.AH f (.rr [.ptr none]) (.op (.BV [.ptr none,I 0,.slnil,.slnil,I 0,I 0,.slnil,I 0,I 0,ff,I 0,I 0,S [],ff,ff,ff,S [],ff,I 0,ff] [(0,1),(1,1),(4,1),(14,1)]) [p,q,I 1,tt] λh=>.alloc 20 h λj=>.rr [j]))
def oz:ES cx 38 t38:=λ_ _=>AF
def t39(p q:Aa):IT:=
 .cells 12 q λa=>.ca 41 [p,Er a,I 1] λb=>.rr [b]
def o_:ES cx 39 t39:=λ_ _=>AF
def t40(p:Aa):IT:=
 .cells 9 p λa=>.op (.append 3 40) [.slnil,g a 2] λb=>.op (.BV [I 0,S [],ff,S [],ff,S [],ff,ff,.slnil,ff,S [],.int .i32 0] [(0,1),(1,1),(8,1)]) [I 2,g a 1,b] λc=>.cells 12 c λd=>.rr [Er d]
def aAI:FL cx 40 t40:=λ_=>AF
def t41(p q r:Aa):IT:=
 .cells 12 q λa=>.ca 83 [p] λb=>.nt [b] λc=>.AH c (.rr [I 0]) (.ca 102 [p,.func (.func 59) [p] [],Er a,r] λd=>.rr [d])
def pc:Q3 cx 41 t41:=λ_ _ _=>AF
def t42(p q:Aa):IT:=
 .cells 12 q λa=>.ca 39 [p,Er a] λb=>.iq [b,I 0] λc=>.AH c (.fa p 3 λ_ d=>.op (.BV [I 0,S [],.slnil] [(0,1),(1,1),(2,1)]) [b,g a 1,g a 8] λe=>.ca 103 [d,e] λ_=>.rr [b]) (.rr [b])
def pd:ES cx 42 t42:=λ_ _=>AF
def t43(p q:Aa):IT:=
 .ca 83 [p] λa=>.nt [a] λb=>.AH b (.rr [.tuple []]) (.ca 104 [p,I 0] λc=>.op (.ext 0) [c] λd=>.op (.ext 1) [c] λe=>.ca 105 [p,d] λf=>.cells 13 f λh=>.F9 200003 (.iq [g h 0,I 4] λj=>.AH j (.iq [g h 0,I 2] λk=>.rn [k]) (.rn [ff])) (nx (λm=>.AH (g m 0) (.rr [.tuple []]) (.ln [g h 2] λn=>.iq [e,I 0] λo=>.F9 100035 (.AH o (.ca 106 [g h 2,e] λs=>.rn [s]) (.rn [n])) (nx (λu=>.ca 107 [.slnil,q] λw=>.UI w λy=>.op .Yc [y] λz=>.ig [g u 0,I 0] λa0=>.F9 100044 (.AH a0 (.ib [g u 0,I 1] λa1=>.ea 1 [g h 2,a1] λa2=>.ld a2 λa5=>.ca 105 [p,a5] λa7=>.cells 13 a7 λa8=>.ie [g a8 0,I 5] λb0=>.AH b0 (.BT p 0 λ_ _ b1=>.ib [g u 0,I 1] λb2=>.ea 1 [g h 2,b2] λb3=>.ld b3 λb4=>.op (.str .add) [g a8 7,z] λb5=>.ca 108 [b1,b4,b5] λ_=>.rr []) (.rn [])) (.rn [])) (nx (λb6=>.BT p 0 λ_ _ b7=>.ca 109 [b7,g h 3,z] λb8=>.op (.ext 0) [b8] λb9=>.op (.ext 1) [b8] λc0=>.ie [c0,I 0] λc1=>.F9 100083 (.AH c1 (.ca 97 [p,b9,d,e] λ_=>.rn []) (.rn [])) (nx (λc2=>.rr [.tuple []]) λc2=>.rr [.tuple []])) λb6=>.rr [.tuple []])) λu=>.rr [.tuple []]))) λm=>.rr [.tuple []]))
def Xo:ES cx 43 t43:=λ_ _=>AF
def t44(p q r:Aa):IT:=
 .ca 83 [p] λa=>.nt [a] λb=>.AH b (.rr [.tuple []]) (.ie [r,I 0] λc=>.F9 100014 (.AH c (.ca 104 [p,I 0] λd=>.op (.ext 0) [d] λe=>.op (.ext 1) [d] λf=>.rn [e,f]) (.rn [r,I 0])) (nx (λh=>.ca 105 [p,g h 0] λj=>.cells 13 j λk=>.F9 200005 (.iq [g k 0,I 1] λm=>.AH m (.iq [g k 0,I 2] λn=>.AH n (.iq [g k 0,I 4] λo=>.rn [o]) (.rn [ff])) (.rn [ff])) (nx (λs=>.AH (g s 0) (.rr [.tuple []]) (.BT p 0 λ_ _ u=>.ca 110 [u,g k 3,q] λw=>.op (.ext 0) [w] λy=>.op (.ext 1) [w] λz=>.ie [z,I 0] λa0=>.F9 100048 (.AH a0 (.ca 97 [p,y,g h 0,g h 1] λ_=>.rn []) (.rn [])) (nx (λa1=>.rr [.tuple []]) λa1=>.rr [.tuple []]))) λs=>.rr [.tuple []])) λh=>.rr [.tuple []]))
def oS:Q3 cx 44 t44:=λ_ _ _=>AF
def t45(p q r:Aa):IT:=
 .cells 12 q λa=>.ca 83 [p] λb=>.AH b (.ca 39 [p,Er a] λ_=>.BT p 4 λ_ _ c=>.fa p 18 λ_ d=>.store 1 d r (.fa p 5 λ_ e=>.store 1 e c (.fa p 4 λ_ f=>.store 1 f (I 8) (.rr [.tuple []])))) (.rr [.tuple []])
def pg:Q3 cx 45 t45:=λ_ _ _=>AF
def t46(p:Aa):IT:=
 .ca 83 [p] λa=>.AH a (.fa p 2 λ_ b=>.op (.Cl 1) [S [112]] λc=>.ca 111 [b,I 3,c] λd=>.AH d (.fa p 2 λ_ e=>.ca 112 [e,S [112]] λ_=>.fa p 2 λ_ f=>.op (.Cl 1) [S [112]] λh=>.ca 58 [f,h] λ_=>.rr [.tuple []]) (.rr [.tuple []])) (.rr [.tuple []])
def oT:FL cx 46 t46:=λ_=>AF
def t47(p:Aa):IT:=
 .ca 83 [p] λa=>.nt [a] λb=>.AH b (.H6 3 p (.rr [.tuple []])) (.fa p 3 λ_ c=>.fl c 0 λ_ d=>.ln [d] λe=>.loop 2 [e] (λf=>.ig [g f 0,I 0] λh=>.AH h (.fa p 3 λ_ j=>.fl j 0 λ_ k=>.ib [g f 0,I 1] λm=>.ea 3 [k,m] λn=>.fl n 0 λ_ o=>.iq [o,I 0] λs=>.AH s (.fa p 2 λ_ u=>.fa p 3 λ_ w=>.fl w 0 λ_ y=>.ib [g f 0,I 1] λz=>.ea 3 [y,z] λa0=>.fl a0 0 λ_ a1=>.ca 113 [u,a1] λa2=>.il [a2,I 0] λa5=>.AH a5 (.ib [g f 0,I 1] λa7=>.rn [a7]) (.rx 0 [g f 0])) (.rx 0 [g f 0])) (.rx 0 [g f 0])) (lx 0 (λa8=>.fa p 3 λ_ b0=>.fl b0 0 λ_ b1=>.ca 114 [b1] λb2=>.fa p 3 λ_ b3=>.op (.Fg 0) [b3] λb4=>.store 1 b4 b2 (.loop 5 [g a8 0] (λb5=>.fa p 3 λ_ b6=>.fl b6 0 λ_ b7=>.ln [b7] λb8=>.il [g b5 0,b8] λb9=>.AH b9 (.fa p 3 λ_ c0=>.fl c0 0 λc1 c2=>.fa p 3 λ_ c3=>.fl c3 0 λ_ c4=>.ea 3 [c4,g b5 0] λc5=>.load (some 3) c5 λc6=>.ca 115 [c6] λc8=>.ld c1 λc9=>.same c2 c9 (.ca 39 [p,c8] λd0=>.ld c1 λd1=>.same c2 d1 (.ea 3 [c2,g b5 0] λd2=>.op (.Fg 0) [d2] λd3=>.store 1 d3 d0 (.ia [g b5 0,I 1] λd4=>.rn [d4])))) (.rx 2 [g b5 0])) (lx 2 (λd5=>.H6 3 p (.rr [.tuple []])) λd5=>.H6 3 p (.rr [.tuple []])))) λa8=>.H6 3 p (.rr [.tuple []])))
def ph:FL cx 47 t47:=λ_=>AF
def t48(p q:Aa):IT:=
 .ca 83 [p] λa=>.nt [a] λb=>.AH b (.rr [.tuple []]) (.fa p 2 λ_ c=>.ca 116 [c] λd=>.ib [d,I 1] λe=>.loop 2 [e] (λf=>.ih [g f 0,I 0] λh=>.AH h (.fa p 2 λ_ j=>.ca 117 [j,g f 0] λk=>.cells 4 k λm=>.op (.Cl 1) [q] λn=>.ca 100 [a4 m,n] λo=>.AH o (.fa p 2 λ_ s=>.ca 112 [s,q] λ_=>.fa p 2 λ_ u=>.ca 118 [u,g m 0] λ_=>.rr [g f 0]) (.BG 119 [g m 1,g m 2] λw=>.AH w (.rr [g f 0]) (.ib [g f 0,I 1] λy=>.rn [y]))) (.rx 0 [g f 0])) (lx 0 (λz=>.rr [.tuple []]) λz=>.rr [.tuple []]))
def pj:ES cx 48 t48:=λ_ _=>AF
def t49(p q:Aa):IT:=
 .ca 83 [p] λa=>.nt [a] λb=>.AH b (.rr [.tuple []]) (.ca 120 [p] λc=>.cells 4 c λd=>.op (.Cl 1) [q] λe=>.ca 100 [a4 d,e] λf=>.AH f (.fa p 3 λ_ h=>.ca 121 [h,g d 0] λj=>.il [j,I 0] λk=>.AH k (.fa p 2 λ_ m=>.ca 56 [m] λ_=>.rr [.tuple []]) (.loop 5 [I 0] (λn=>.il [g n 0,I 8] λo=>.AH o (.ca 122 [p,q] λs=>.nt [s] λu=>.AH u (.rr [g n 0]) (.ia [g n 0,I 1] λw=>.rn [w])) (.rx 0 [g n 0])) (lx 0 (λy=>.rr [.tuple []]) λy=>.rr [.tuple []]))) (.loop 5 [I 0] (λz=>.il [g z 0,I 8] λa0=>.AH a0 (.ca 122 [p,q] λa1=>.nt [a1] λa2=>.AH a2 (.rr [g z 0]) (.ia [g z 0,I 1] λa5=>.rn [a5])) (.rx 0 [g z 0])) (lx 0 (λa7=>.rr [.tuple []]) λa7=>.rr [.tuple []])))
def oU:ES cx 49 t49:=λ_ _=>AF
def t50(p:Aa):IT:=
 .ca 83 [p] λa=>.nt [a] λb=>.AH b (.rr [.tuple []]) (.fa p 4 λ_ c=>.store 1 c (I 7) (.fa p 2 λ_ d=>.ca 116 [d] λe=>.ib [e,I 1] λf=>.loop 3 [f] (λh=>.ih [g h 0,I 0] λj=>.AH j (.fa p 2 λ_ k=>.ca 117 [k,g h 0] λm=>.cells 4 m λn=>.ie [g h 0,I 0] λo=>.AH o (.BT p 9 λ_ _ s=>.AH s (.fa p 10 λ_ u=>.load (some 4) u λw=>.cells 4 w λy=>.ca 123 [p,a4 y,g h 0] λz=>.op (.ext 0) [z] λa0=>.op (.ext 1) [z] λa1=>.AH a1 (.fa p 4 λ_ a2=>.store 1 a2 a0 (.rr [g h 0])) (.ib [g h 0,I 1] λa5=>.rn [a5])) (.ca 123 [p,a4 n,g h 0] λa7=>.op (.ext 0) [a7] λa8=>.op (.ext 1) [a7] λb0=>.AH b0 (.fa p 4 λ_ b1=>.store 1 b1 a8 (.rr [g h 0])) (.ib [g h 0,I 1] λb2=>.rn [b2]))) (.ca 123 [p,a4 n,g h 0] λb3=>.op (.ext 0) [b3] λb4=>.op (.ext 1) [b3] λb5=>.AH b5 (.fa p 4 λ_ b6=>.store 1 b6 b4 (.rr [g h 0])) (.ib [g h 0,I 1] λb7=>.rn [b7]))) (.rx 0 [g h 0])) (lx 0 (λb8=>.rr [.tuple []]) λb8=>.rr [.tuple []])))
def pk:FL cx 50 t50:=λ_=>AF
def t51(p q r:Aa):IT:=
 .cells 12 q λa=>.ca 83 [p] λb=>.nt [b] λc=>.AH c (.rr [.tuple []]) (.ca 105 [p,r] λd=>.op (.part 0 none) [d] λe=>.iq [e,I 4] λf=>.AH f (.rr [.tuple []]) (.ca 105 [p,r] λh=>.op (.part 6 none) [h] λj=>.ln [g a 8] λk=>.loop 4 [j,I 0] (λm=>.il [g m 1,k] λn=>.AH n (.ea 3 [g a 8,g m 1] λo=>.load (some 3) o λs=>.cells 3 s λu=>.ca 124 [g m 0,.func (.func 125) [] [.BW [g u 0,g u 1,g u 2]]] λw=>.nt [w] λy=>.AH y (.fl (.BW [g u 0,g u 1,g u 2]) 1 λ_ z=>.fl (.BW [g u 0,g u 1,g u 2]) 2 λ_ a0=>.op (.BV [I 0,S [],S []] [(1,1),(2,1)]) [z,a0] λa1=>.op (.Cl 3) [a1] λa2=>.FQ 3 40 (g m 0) a2 λa5=>.ia [g m 1,I 1] λa7=>.rn [a5,a7]) (.ia [g m 1,I 1] λa8=>.rn [g m 0,a8])) (.rx 0 [g m 0,g m 1])) (lx 0 (λb0=>.BT p 0 λ_ _ b1=>.ca 126 [b1,r,g b0 0] λ_=>.rr [.tuple []]) λb0=>.rr [.tuple []])))
def oV:Q3 cx 51 t51:=λ_ _ _=>AF
def t52(p:Aa):IT:=
 .ca 83 [p] λa=>.nt [a] λb=>.AH b (.rr [.tuple []]) (.fa p 2 λ_ c=>.ca 127 [c,S aTv] λd=>.il [d,I 0] λe=>.AH e (.rr [.tuple []]) (.fa p 2 λ_ f=>.ca 128 [f] λ_=>.fa p 2 λ_ h=>.op (.Cl 1) [S aTv] λj=>.ca 58 [h,j] λ_=>.fa p 3 λ_ k=>.ca 57 [k] λ_=>.BT p 6 λ_ _ m=>.ln [m] λn=>.ig [n,I 0] λo=>.AH o (.BT p 6 λ_ _ s=>.ib [n,I 1] λu=>.op (.PQ 1 false false true) [s,u] λw=>.ca 73 [w] λy=>.fa p 6 λ_ z=>.store 1 z y (.ca 50 [p] λ_=>.rr [.tuple []])) (.ca 50 [p] λ_=>.rr [.tuple []])))
def cA:FL cx 52 t52:=λ_=>AF
def t53(p:Aa):IT:=
 .ca 83 [p] λa=>.AH a (.fa p 19 λ_ b=>.store 1 b tt (.rr [.tuple []])) (.rr [.tuple []])
def pq:FL cx 53 t53:=λ_=>AF
def t54(p:Aa):IT:=
 .op (.Ru true) [p,.ptr none] λa=>.AH a (.BT p 0 λ_ _ b=>.op (.BV [I 0,S [],.slnil] []) [] λc=>.BT p 0 λ_ _ d=>.ln [d] λe=>.ca 129 [b,c,e] λf=>.fa p 0 λ_ h=>.store 1 h f (.rr [.tuple []])) (.rr [.tuple []])
def pt:FL cx 54 t54:=λ_=>AF
def t55(p:Aa):IT:=
 .cells 4 p λa=>.op (.BV [I 0,I 0,S [],ff] [(0,1),(1,1),(2,1),(3,1)]) [g a 0,g a 1,g a 2,g a 3] λb=>.cells 4 b λc=>.rr [a4 c]
def aAJ:FL cx 55 t55:=λ_=>AF
def t56(p:Aa):IT:=
 .ca 116 [p] λa=>.il [a,I 2] λb=>.AH b (.op (.BV [I 0,I 0,S [],ff] []) [] λc=>.cells 4 c λd=>.rr [a4 d]) (.ca 130 [p] λe=>.cells 4 e λf=>.BT p 0 λ_ _ h=>.BT p 0 λ_ _ j=>.ln [j] λk=>.ib [k,I 1] λm=>.op (.PQ 4 false false true) [h,m] λn=>.fa p 0 λ_ o=>.store 1 o n (.cells 4 (a4 f) λs=>.rr [a4 s]))
def cB:FL cx 56 t56:=λ_=>AF
def t57(p:Aa):IT:=
 .op (.Ru false) [p,.ptr none] λa=>.AH a (.rr [I 0]) (.BT p 0 λ_ _ b=>.ln [b] λc=>.BT p 0 λ_ d e=>.ca 131 [p] λf=>.ld d λh=>.same e h (.ib [f,I 1] λj=>.op (.Ld true) [j,I 0] λk=>.op (.PQ 3 false false true) [e,k] λm=>.fa p 0 λ_ n=>.store 1 n m (.BT p 0 λ_ _ o=>.ln [o] λs=>.ib [c,s] λu=>.rr [u])))
def pv:FL cx 57 t57:=λ_=>AF
def t58(p q:Aa):IT:=
 .cells 1 q λa=>.ca 132 [p,.func (.func 133) [] [],.func (.func 134) [] [.BW [g a 0]]] λb=>.rr [b]
def px:ES cx 58 t58:=λ_ _=>AF
def t59(p q r u:Aa):IT:=
 .cells 12 q λa=>.F9 200001 (.ca 83 [p] λb=>.nt [b] λc=>.AH c (.rn [tt]) (.il [r,I 0] λd=>.AH d (.rn [tt]) (.ig [r,I 7] λe=>.rn [e]))) (nx (λf=>.AH (g f 0) (.op (.BV [I 0,I 0,S [],ff] []) [] λh=>.cells 4 h λj=>.rr [a4 j]) (.ca 136 [r,g a 8] λk=>.ie [r,I 2] λm=>.F9 100032 (.AH m (.BG 137 [g a 1] λn=>.rn [n]) (.rn [g a 1])) (nx (λo=>.BT p 0 λ_ s w=>.ca 139 [p,u] λy=>.ld s λz=>.same w z (.ca 138 [w,y,r,g o 0,k] λa0=>.op (.ext 0) [a0] λa1=>.op (.ext 1) [a0] λa2=>.iq [a2,I 0] λa5=>.AH a5 (.op (.BV [I 0,I 0,S [],ff] []) [] λa7=>.cells 4 a7 λa8=>.rr [a4 a8]) (.ca 99 [r,g o 0,k] λb0=>.op (.BV [I 0,I 0,S [],ff] [(0,1),(1,1),(2,1),(3,1)]) [a1,r,g o 0,b0] λb1=>.cells 4 b1 λb2=>.rr [a4 b2]))) λo=>.rr [.agg [I 0,I 0,S [],ff]]))) λf=>.rr [.agg [I 0,I 0,S [],ff]])
def oW:Tq4 cx 59 t59:=λ_ _ _ _=>AF
def t60(p q:Aa):IT:=
 .cells 12 q λa=>.op (.Ru true) [p,.ptr none] λb=>.AH b (.BT p 0 λ_ _ c=>.op (.Ru true) [c,.ptr none] λd=>.AH d (.ih [g a 0,I 1] λe=>.AH e (.ik [g a 0,I 6] λf=>.rr [f]) (.rr [ff])) (.rr [ff])) (.rr [ff])
def py:ES cx 60 t60:=λ_ _=>AF
def t61:IT:=
 .MY λa=>.mem .S2 [a,I 1,.func (.func 21) [] []] λ_=>.mem .S2 [a,I 2,.func (.func 22) [] []] λ_=>.mem .S2 [a,I 3,.func (.func 23) [] []] λ_=>.mem .S2 [a,I 4,.func (.func 24) [] []] λ_=>.mem .S2 [a,I 5,.func (.func 25) [] []] λ_=>.mem .S2 [a,I 6,.func (.func 26) [] []] λ_=>.mem .S2 [a,I 7,.func (.func 27) [] []] λ_=>.mem .S2 [a,I 8,.func (.func 28) [] []] λ_=>.mem .S2 [a,I 18,.func (.func 29) [] []] λ_=>.rr [a]
def pz:B7 cx 61 []=t61:=AF
def t62(p:Aa):IT:=
 .cells 12 p λa=>.ie [g a 0,I 5] λb=>.AH b (.BG 140 [g a 11] λc=>.rr [c]) (.rr [ff])
def p_:FL cx 62 t62:=λ_=>AF
def t63(p q r:Aa):IT:=
 .ca 141 [p,q] λa=>.iq [a,I 0] λb=>.AH b (.rr [a]) (.ca 96 [p,q] λc=>.fa c 0 λ_ d=>.op (.Fg 10) [d] λe=>.store 1 e r (.rr [I 0]))
def qa:Q3 cx 63 t63:=λ_ _ _=>AF
def t64(p q:Aa):IT:=
 .fa p 4 λ_ a=>.store 1 a q (.rr [tt])
def oX:ES cx 64 t64:=λ_ _=>AF
def t65(p q r u w:Aa):IT:=
 .op (.BV [I 0,I 0,.slnil,I 0,I 0,S [],.slnil,S [],S [],S [],ff,I 0,I 0] [(0,1),(5,1),(8,1),(9,1)]) [I 3,r,u,w] λa=>.ca 142 [p,q,a] λb=>.op (.ext 0) [b] λc=>.op (.ext 1) [b] λd=>.rr [.tuple [c,d]]
def qb:Tq5 cx 65 t65:=λ_ _ _ _ _=>AF
def N_(p q r u:Aa):IT:=
 .op (.Cl 1) [q,r] λa=>.ca 143 [p,a] λb=>.iq [b,I 0] λc=>.AH c (.rr [b]) (.F9 200004 (.iq [u,I 0] λd=>.AH d (.ca 92 [p,u] λe=>.nt [e] λf=>.rn [f]) (.rn [ff])) (nx (λh=>.AH (g h 0) (.rr [I 3]) (.ca 96 [p,q] λj=>.ca 96 [p,r] λk=>.F9 200007 (.fa j 0 λ_ m=>.fl m 0 λ_ n=>.iq [n,I 1] λo=>.AH o (.fa j 0 λ_ s=>.fl s 0 λ_ w=>.iq [w,I 2] λy=>.AH y (.fa j 0 λ_ z=>.fl z 0 λ_ a0=>.iq [a0,I 4] λa1=>.rn [a1]) (.rn [ff])) (.rn [ff])) (λx a2=>match x with| .normal=>.AH (g a2 0) (.rr [I 4]) (.fa k 0 λ_ a5=>.fl a5 0 λ_ a7=>.ie [a7,I 1] λa8=>.AH a8 (.rr [I 4]) (.fa k 0 λ_ b0=>.fl b0 0 λ_ b1=>.ie [b1,I 2] λb2=>.AH b2 (.rr [I 4]) (.ca 144 [p,r,q] λb3=>.AH b3 (.rr [I 4]) (.F9 200012 (.iq [u,I 0] λb4=>.AH b4 (.ie [u,r] λb5=>.AH b5 (.rn [tt]) (.ca 96 [p,u] λb6=>.fa b6 0 λ_ b7=>.fl b7 1 λ_ b8=>.iq [b8,q] λb9=>.rn [b9])) (.rn [ff])) (λx c0=>match x with| .normal=>.AH (g c0 0) (.rr [I 5]) (.ca 145 [p,r] λ_=>.fa j 0 λ_ c1=>.fl c1 2 λ_ c2=>.ln [c2] λc3=>.iq [u,I 0] λc4=>.F9 100103 (.AH c4 (.fa j 0 λ_ c5=>.fl c5 2 λ_ c7=>.ca 106 [c7,u] λc8=>.rn [c8]) (.rn [c3])) (nx (λc9=>.fa j 0 λ_ d0=>.fl d0 2 λ_ d1=>.op (.Cl 1) [r] λd2=>.mem .zB [d1,g c9 0,d2] λd3=>.fa j 0 λ_ d4=>.op (.Fg 2) [d4] λd5=>.store 1 d5 d3 (.fa k 0 λ_ d6=>.op (.Fg 1) [d6] λd7=>.store 1 d7 q (.rr [I 0]))) λc9=>.rr [I 0]))| .exit i=>if i=0 then .ca 145 [p,r] λ_=>.fa j 0 λ_ d8=>.fl d8 2 λ_ d9=>.ln [d9] λe0=>.iq [u,I 0] λe1=>.F9 100103 (.AH e1 (.fa j 0 λ_ e2=>.fl e2 2 λ_ e3=>.ca 106 [e3,u] λe4=>.rn [e4]) (.rn [e0])) (nx (λe5=>.fa j 0 λ_ e6=>.fl e6 2 λ_ e7=>.op (.Cl 1) [r] λe8=>.mem .zB [e7,g e5 0,e8] λe9=>.fa j 0 λ_ f0=>.op (.Fg 2) [f0] λf1=>.store 1 f1 e9 (.fa k 0 λ_ f2=>.op (.Fg 1) [f2] λf3=>.store 1 f3 q (.rr [I 0]))) λe5=>.rr [I 0]) else .fail| .ret=>.rr [I 0])))))| .exit i=>if i=0 then .ca 145 [p,r] λ_=>.fa j 0 λ_ f4=>.fl f4 2 λ_ f5=>.ln [f5] λf6=>.iq [u,I 0] λf7=>.F9 100103 (.AH f7 (.fa j 0 λ_ f8=>.fl f8 2 λ_ f9=>.ca 106 [f9,u] λh0=>.rn [h0]) (.rn [f6])) (nx (λh1=>.fa j 0 λ_ h2=>.fl h2 2 λ_ h3=>.op (.Cl 1) [r] λh4=>.mem .zB [h3,g h1 0,h4] λh5=>.fa j 0 λ_ h6=>.op (.Fg 2) [h6] λh7=>.store 1 h7 h5 (.fa k 0 λ_ h8=>.op (.Fg 1) [h8] λh9=>.store 1 h9 q (.rr [I 0]))) λh1=>.rr [I 0]) else .fail| .ret=>.rr [I 0]))) λh=>.rr [I 0]))
def Py:Tq4 cx 66 N_:=λ_ _ _ _=>AF
def t67(p:Aa):IT:=
 .cells 12 p λa=>.iq [g a 0,I 1] λb=>.AH b (.rr [ff]) (.AH (g a 7) (.rr [tt]) (.nt [g a 2] λc=>.AH c (.rr [tt]) (.op (.str .neq) [g a 1,S aTu] λd=>.AH d (.rr [tt]) (.nt [g a 4] λe=>.AH e (.rr [ff]) (.op (.Cl 1) [S aT1,S aT2,S [72,84,77,76]] λf=>.ln [f] λh=>.loop 8 [ff,I 0] (λj=>.il [g j 1,h] λk=>.AH k (.ea 1 [f,g j 1] λm=>.ld m λn=>.BG 147 [g a 3,n] λo=>.AH o (.rr [tt,g j 1]) (.ia [g j 1,I 1] λs=>.rn [g j 0,s])) (.rx 0 [g j 0,g j 1])) (lx 0 (λu=>.fl (.BW [g a 0,g a 1,g a 2,g a 3,g a 4,g a 5,g a 6,g a 7,g a 8,g a 9,g a 10,g a 11]) 6 λ_ w=>.nt [w] λy=>.AH y (.D4 (.func (.func 148) [] [.BW [g a 0,g a 1,g a 2,g a 3,g a 4,g a 5,g a 6,g a 7,g a 8,g a 9,g a 10,g a 11]]) [S aT4] λz=>.AH z (.rr [tt]) (.D4 (.func (.func 148) [] [.BW [g a 0,g a 1,g a 2,g a 3,g a 4,g a 5,g a 6,g a 7,g a 8,g a 9,g a 10,g a 11]]) [S aTW] λa0=>.AH a0 (.rr [tt]) (.op (.Cl 1) [S aUa,S aT3,S aUe,S aTX,S aTY,S aUf,S aTQ,S aUd,S aTP,S aTI,S aTC,S aTF,S aUb,S aT0] λa1=>.ca 149 [a1,.func (.func 148) [] [.BW [g a 0,g a 1,g a 2,g a 3,g a 4,g a 5,g a 6,g a 7,g a 8,g a 9,g a 10,g a 11]]] λa2=>.rr [a2]))) (.op (.Cl 1) [S aUa,S aT3,S aUe,S aTX,S aTY,S aUf,S aTQ,S aUd,S aTP,S aTI,S aTC,S aTF,S aUb,S aT0] λa5=>.ca 149 [a5,.func (.func 148) [] [.BW [g a 0,g a 1,g a 2,g a 3,g a 4,g a 5,g a 6,g a 7,g a 8,g a 9,g a 10,g a 11]]] λa7=>.rr [a7])) λu=>.rr [g u 0]))))))
def qc:FL cx 67 t67:=λ_=>AF
def t68(p q:Aa):IT:=
 .cells 12 p λa=>.ie [g a 0,I 3] λb=>.AH b (.BG 150 [g a 1,q] λc=>.nt [c] λd=>.rr [d]) (.rr [ff])
def qd:ES cx 68 t68:=λ_ _=>AF
def t69(p q:Aa):IT:=
 .cells 12 p λa=>.ie [g a 0,I 2] λb=>.AH b (.BG 150 [g a 1,q] λc=>.rr [c]) (.rr [ff])
def qe:ES cx 69 t69:=λ_ _=>AF
def t70(p:Aa):IT:=
 .op (.BV [I 0,S [],ff,S [],ff,S [],ff,ff,.slnil,ff,S [],.int .i32 0] [(0,1),(1,1)]) [I 2,p] λa=>.cells 12 a λb=>.rr [Er b]
def qg:FL cx 70 t70:=λ_=>AF
def t71(p q:Aa):IT:=
 .cells 12 q λa=>.ca 39 [p,Er a] λ_=>.fa p 2 λ_ b=>.ca 56 [b] λ_=>.rr [.tuple []]
def oY:ES cx 71 t71:=λ_ _=>AF
def t72(p q:Aa):IT:=
 .cells 12 p λa=>.ie [g a 0,I 3] λb=>.AH b (.BG 150 [g a 1,q] λc=>.rr [c]) (.rr [ff])
def qh:ES cx 72 t72:=λ_ _=>AF
def t73(p:Aa):IT:=
 .op (.Ff false .sl) [p,.slnil] λa=>.AH a (.rr [.slnil]) (.op (.EC 1) [] λb=>.op (.append 1 8) [b,p] λc=>.rr [c])
def Xp:FL cx 73 t73:=λ_=>AF
def t74(p q r:Aa):IT:=
 .cells 12 q λa=>.BT p 7 λ_ _ b=>.fa p 2 λ_ c=>.op (.BV [I 0,I 0,S [],ff] [(0,1),(1,1),(2,1)]) [b,I 1,S aTx] λd=>.ca 98 [c,d] λ_=>.D4 r [p,Er a] λe=>.fa p 2 λ_ f=>.ca 151 [f,b] λ_=>.rr [e]
def qi:Q3 cx 74 t74:=λ_ _ _=>AF
def t75(p:Aa):IT:=
 .fa p 1 λ_ a=>.fl a 11 λ_ b=>.ie [b,.int .i32 0] λc=>.AH c (.rr [.tuple []]) (.BT p 0 λ_ _ d=>.ca 47 [d] λ_=>.BT p 0 λ_ _ e=>.fa p 1 λ_ f=>.fl f 11 λ_ h=>.ca 43 [e,h] λ_=>.fa p 1 λ_ j=>.load (some 12) j λk=>.ca 62 [k] λm=>.nt [m] λn=>.AH n (.BT p 0 λ_ _ o=>.fa o 14 λ_ s=>.store 1 s ff (.rr [.tuple []])) (.rr [.tuple []]))
def cC:FL cx 75 t75:=λ_=>AF
def t76:IT:=
 .MY λa=>.ca 152 [a,S aTs,.func (.func 153) [] []] λ_=>.ca 154 [.func (.func 155) [] []] λb=>.ca 152 [a,S aTt,b] λ_=>.ca 154 [.func (.func 156) [] []] λc=>.ca 152 [a,S aTG,c] λ_=>.ca 154 [.func (.func 157) [] []] λd=>.ca 152 [a,S aUQ,d] λ_=>.ca 154 [.func (.func 158) [] []] λe=>.ca 152 [a,S aTH,e] λ_=>.ca 154 [.func (.func 159) [] []] λf=>.ca 152 [a,S aTM,f] λ_=>.ca 154 [.func (.func 160) [] []] λh=>.ca 152 [a,S aTz,h] λ_=>.ca 152 [a,S aTA,.func (.func 161) [] []] λ_=>.ca 154 [.func (.func 162) [] []] λj=>.ca 152 [a,S aTR,j] λ_=>.ca 154 [.func (.func 163) [] []] λk=>.ca 152 [a,S aUR,k] λ_=>.ca 154 [.func (.func 164) [] []] λm=>.ca 152 [a,S aVe,m] λ_=>.ca 154 [.func (.func 165) [] []] λn=>.ca 152 [a,S aVf,n] λ_=>.ca 154 [.func (.func 166) [] []] λo=>.ca 152 [a,S aUy,o] λ_=>.ca 154 [.func (.func 167) [] []] λs=>.ca 152 [a,S aU7,s] λ_=>.ca 154 [.func (.func 168) [] []] λu=>.ca 154 [.func (.func 169) [] []] λw=>.ca 154 [.func (.func 170) [] []] λy=>.mem (.VE .nilFunc) [a,S aTD] λz=>.op (.ext 1) [z] λa0=>.mem .Kf [a,a0,u] λ_=>.Hu a (S aUg) w (.Hu a (S aTw) y (.ca 154 [.func (.func 171) [] []] λa1=>.ca 154 [.func (.func 172) [] []] λa2=>.ca 154 [.func (.func 173) [] []] λa5=>.ca 154 [.func (.func 174) [] []] λa7=>.mem (.VE .nilFunc) [a,S [97]] λa8=>.op (.ext 1) [a8] λb0=>.mem .Kf [a,b0,a1] λ_=>.Hu a (S aTT) a2 (.Hu a (S aTL) a5 (.Hu a (S aT9) a7 (.rr [a])))))
def qj:B7 cx 76 []=t76:=AF
def t77:IT:=
 .MY λa=>.Hu a (S aTv) (.func (.func 153) [] []) (.Hu a (S aTy) (.func (.func 175) [] []) (.Hu a (S aTu) (.func (.func 175) [] []) (.ca 154 [.func (.func 176) [] []] λb=>.ca 152 [a,S aTr,b] λ_=>.ca 154 [.func (.func 177) [] []] λc=>.ca 152 [a,S aTB,c] λ_=>.ca 154 [.func (.func 178) [] []] λd=>.ca 152 [a,S aTG,d] λ_=>.ca 154 [.func (.func 179) [] []] λe=>.ca 152 [a,S aTM,e] λ_=>.ca 154 [.func (.func 180) [] []] λf=>.ca 152 [a,S aU2,f] λ_=>.ca 154 [.func (.func 181) [] []] λh=>.Hu a (S aUg) h (.ca 154 [.func (.func 182) [] []] λj=>.Hu a (S [98,114]) j (.rr [a])))))
def ql:B7 cx 77 []=t77:=AF
def t78(p q:Aa):IT:=
 .ca 100080 [p] λ_=>.BT p 6 λ_ _ a=>.op (.Cl 1) [q] λb=>.FQ 1 8 a b λc=>.fa p 6 λ_ d=>.store 1 d c (.ca 64 [p,q] λe=>.H6 6 p (.rr [e]))
def qm:ES cx 78 t78:=λ_ _=>AF
def t79(p:Aa):IT:=
 .fa p 2 λ_ a=>.ca 127 [a,S aTv] λb=>.ih [b,I 0] λc=>.rr [c]
def qn:FL cx 79 t79:=λ_=>AF
def t80(p:Aa):IT:=
 .BT p 6 λ_ _ a=>.ln [a] λb=>.ig [b,I 0] λc=>.AH c (.BT p 6 λ_ _ d=>.ib [b,I 1] λe=>.op (.PQ 1 false false true) [d,e] λf=>.ca 73 [f] λh=>.fa p 6 λ_ j=>.store 1 j h (.rr [.tuple []])) (.rr [.tuple []])
def oZ:FL cx 80 t80:=λ_=>AF
def t81(p q:Aa):IT:=
 .ln [p] λa=>.ln [q] λb=>.iq [a,b] λc=>.AH c (.rr [ff]) (.loop 4 [ff,I 0] (λd=>.ln [p] λe=>.il [g d 1,e] λf=>.AH f (.ea 1 [p,g d 1] λh=>.ld h λj=>.ea 1 [q,g d 1] λk=>.ld k λm=>.iq [j,m] λn=>.AH n (.rr [ff,g d 1]) (.ia [g d 1,I 1] λo=>.rn [g d 0,o])) (.rx 0 [g d 0,g d 1])) (lx 0 (λs=>.rr [tt]) λs=>.rr [g s 0]))
def aAK:ES cx 81 t81:=λ_ _=>AF
def t82(p q:Aa):IT:=
 .ln [p] λa=>.ln [q] λb=>.iq [a,b] λc=>.AH c (.rr [ff]) (.loop 4 [ff,I 0] (λd=>.ln [p] λe=>.il [g d 1,e] λf=>.AH f (.ea 3 [p,g d 1] λh=>.fl h 0 λ_ j=>.ea 3 [q,g d 1] λk=>.fl k 0 λ_ m=>.iq [j,m] λn=>.AH n (.rr [ff,g d 1]) (.ea 3 [p,g d 1] λo=>.fl o 1 λ_ s=>.ea 3 [q,g d 1] λu=>.fl u 1 λ_ w=>.op (.str .neq) [s,w] λy=>.AH y (.rr [ff,g d 1]) (.ea 3 [p,g d 1] λz=>.fl z 2 λ_ a0=>.ln [a0] λa1=>.ea 3 [q,g d 1] λa2=>.fl a2 2 λ_ a5=>.ln [a5] λa7=>.iq [a1,a7] λa8=>.AH a8 (.rr [ff,g d 1]) (.loop 9 [g d 0,I 0] (λb0=>.ea 3 [p,g d 1] λb1=>.fl b1 2 λ_ b2=>.ln [b2] λb3=>.il [g b0 1,b3] λb4=>.AH b4 (.ea 3 [p,g d 1] λb5=>.fl b5 2 λ_ b6=>.ea 3 [b6,g b0 1] λb7=>.load (some 3) b7 λb8=>.ea 3 [q,g d 1] λb9=>.fl b9 2 λ_ c0=>.ea 3 [c0,g b0 1] λc1=>.load (some 3) c1 λc2=>.op (.geq true [.i,.s,.s]) [b8,c2] λc4=>.AH c4 (.rr [ff,g b0 1]) (.ia [g b0 1,I 1] λc5=>.rn [g b0 0,c5])) (.rx 2 [g b0 0,g b0 1])) (λx c6=>match x with| .normal=>.fail| .exit i=>if i=2 then .ia [g d 1,I 1] λc7=>.rn [g c6 0,c7] else if i=1 then .ia [g d 1,I 1] λc8=>.rn [g c6 0,c8] else .ret (.exit i) [g c6 0,g d 1]| .ret=>.rr [g c6 0,g d 1]))))) (.rx 0 [g d 0,g d 1])) (lx 0 (λc9=>.rr [tt]) λc9=>.rr [g c9 0]))
def aAL:ES cx 82 t82:=λ_ _=>AF
def t83(p:Aa):IT:=
 .op (.Ru true) [p,.ptr none] λa=>.AH a (.BT p 0 λ_ _ b=>.op (.Ru true) [b,.ptr none] λc=>.rr [c]) (.rr [ff])
def qo:FL cx 83 t83:=λ_=>AF
def t84(p:Aa):IT:=
 .op (.Ff false .sl) [p,.slnil] λa=>.AH a (.rr [.slnil]) (.op (.Cl 3) [] λb=>.F8 3 40 b p λc=>.rr [c])
def o7:FL cx 84 t84:=λ_=>AF
def t85(p:Aa):IT:=
 .op (.Ru false) [p,.ptr none] λa=>.AH a (.rr [I 0]) (.BT p 0 λ_ _ b=>.ln [b] λc=>.rr [c])
def aAM:FL cx 85 t85:=λ_=>AF
def t86(p q:Aa):IT:=
 .ln [p] λa=>.ln [q] λb=>.iq [a,b] λc=>.AH c (.rr [ff]) (.ln [p] λd=>.loop 4 [ff,I 0] (λe=>.il [g e 1,d] λf=>.AH f (.ea 1 [p,g e 1] λh=>.ld h λj=>.ea 1 [q,g e 1] λk=>.ld k λm=>.iq [j,m] λn=>.AH n (.rr [ff,g e 1]) (.ia [g e 1,I 1] λo=>.rn [g e 0,o])) (.rx 0 [g e 0,g e 1])) (lx 0 (λs=>.rr [tt]) λs=>.rr [g s 0]))
def aAN:ES cx 86 t86:=λ_ _=>AF
def t87(p q:Aa):IT:=
 .BT p 0 λ_ _ a=>.BT q 0 λ_ _ b=>.ie [a,b] λc=>.AH c (.BT p 4 λ_ _ d=>.BT q 4 λ_ _ e=>.ie [d,e] λf=>.AH f (.BT p 5 λ_ _ h=>.BT q 5 λ_ _ j=>.se [h,j] λk=>.AH k (.BT p 6 λ_ _ m=>.BT q 6 λ_ _ n=>.ca 183 [m,n] λo=>.AH o (.BT p 7 λ_ _ s=>.BT q 7 λ_ _ u=>.se [s,u] λw=>.AH w (.BT p 8 λ_ _ y=>.BT q 8 λ_ _ z=>.se [y,z] λa0=>.AH a0 (.BT p 9 λ_ _ a1=>.BT q 9 λ_ _ a2=>.se [a1,a2] λa5=>.AH a5 (.BT p 10 λ_ _ a7=>.BT q 10 λ_ _ a8=>.op (.beq false) [a7,a8] λb0=>.rr [b0]) (.rr [ff])) (.rr [ff])) (.rr [ff])) (.rr [ff])) (.rr [ff])) (.rr [ff])) (.rr [ff])
def aAO:ES cx 87 t87:=λ_ _=>AF
def t89:IT:=
 .ca 35 [] λa=>.ca 36 [a,ff] λb=>.ca 38 [a,b] λc=>.rr [c]
def aAP:B7 cx 89 []=t89:=AF
def t90(p q:Aa):IT:=
 .cells 12 q λa=>.BT p 6 λ_ _ b=>.ln [b] λc=>.ia [I 9,c] λd=>.loop 3 [ff,I 0] (λe=>.il [g e 1,d] λf=>.AH f (.BT p 4 λ_ _ h=>.BG 91 [h] λj=>.nt [j] λk=>.AH k (.rr [tt,g e 1]) (.ca 19 [Er a] λm=>.ca 20 [p,m] λn=>.nt [n] λo=>.AH o (.rr [tt,g e 1]) (.ia [g e 1,I 1] λs=>.rn [g e 0,s]))) (.rx 0 [g e 0,g e 1])) (lx 0 (λu=>.BT p 4 λ_ _ w=>.BG 91 [w] λy=>.nt [y] λz=>.rr [z]) λu=>.rr [g u 0])
def aAQ:ES cx 90 t90:=λ_ _=>AF
def t91(p:Aa):IT:=
 .ih [p,I 1] λa=>.AH a (.ik [p,I 8] λb=>.AH b (.rr [tt]) (.ie [p,I 18] λc=>.rr [c])) (.ie [p,I 18] λd=>.rr [d])
def aAR:FL cx 91 t91:=λ_=>AF
def t92(p q:Aa):IT:=
 .op (.Ru true) [p,.ptr none] λa=>.AH a (.ih [q,I 1] λb=>.AH b (.BT p 0 λ_ _ c=>.ln [c] λd=>.ik [q,d] λe=>.rr [e]) (.rr [ff])) (.rr [ff])
def qp:ES cx 92 t92:=λ_ _=>AF
def t95(p q:Aa):IT:=
 .cells 13 q λa=>.BT p 0 λ_ _ b=>.op (.BV [I 0,I 0,.slnil,I 0,I 0,S [],.slnil,S [],S [],S [],ff,I 0,I 0] [(0,13)]) [mz a] λc=>.op (.Cl 13) [c] λd=>.FQ 13 168 b d λe=>.fa p 0 λ_ f=>.store 1 f e (.BT p 0 λ_ _ h=>.ln [h] λj=>.rr [j])
def o8:ES cx 95 t95:=λ_ _=>AF
def t96(p q:Aa):IT:=
 .BT p 0 λ_ _ a=>.ib [q,I 1] λb=>.ea 13 [a,b] λc=>.rr [c]
def o9:ES cx 96 t96:=λ_ _=>AF
def t97(p q r u:Aa):IT:=
 .cells 1 p λa=>.ca 105 [g a 0,r] λb=>.op (.part 0 none) [b] λc=>.ie [c,I 1] λd=>.AH d (.ca 105 [g a 0,q] λe=>.op (.part 0 none) [e] λf=>.ie [f,I 4] λh=>.AH h (.BT (g a 0) 0 λ_ _ j=>.ca 189 [j,r] λk=>.ca 188 [k,.func (.func 190) [] [.BW [g a 0]]] λm=>.AH m (.rr [.tuple []]) (.ld (.BW [g a 0]) λn=>.BT n 0 λ_ _ o=>.ca 66 [o,r,q,u] λ_=>.rr [.tuple []])) (.BT (g a 0) 0 λ_ _ s=>.ca 66 [s,r,q,u] λ_=>.rr [.tuple []])) (.BT (g a 0) 0 λ_ _ w=>.ca 66 [w,r,q,u] λ_=>.rr [.tuple []])
def Xq:Tq4 cx 97 t97:=λ_ _ _ _=>AF
def t98(p q:Aa):IT:=
 .cells 4 q λa=>.op (.Ru true) [p,.ptr none] λb=>.AH b (.BT p 0 λ_ _ c=>.BT p 0 λ_ _ d=>.ln [d] λe=>.ca 191 [c,a4 a,e] λf=>.fa p 0 λ_ h=>.store 1 h f (.rr [.tuple []])) (.rr [.tuple []])
def qq:ES cx 98 t98:=λ_ _=>AF
def t99(p q r:Aa):IT:=
 .ie [p,I 2] λa=>.AH a (.BG 119 [p,q] λb=>.rr [b]) (.iq [p,I 3] λc=>.AH c (.rr [ff]) (.op (.str .neq) [q,S aTK] λd=>.AH d (.rr [ff]) (.ca 192 [r,.func (.func 193) [] []] λe=>.ih [e,I 0] λf=>.AH f (.ea 3 [r,e] λh=>.fl h 2 λ_ j=>.BG 147 [j,S aU5] λk=>.AH k (.rr [tt]) (.ea 3 [r,e] λm=>.fl m 2 λ_ n=>.BG 147 [n,S aUk] λo=>.rr [o])) (.rr [ff]))))
def qt:Q3 cx 99 t99:=λ_ _ _=>AF
def aAS(p q:Aa):IT:=
 .cells 4 p λa=>.ie [g a 1,I 1] λb=>.AH b (.ca 194 [q,g a 2] λc=>.rr [c]) (.rr [ff])
def tI:ES cx 100 aAS:=λ_ _=>AF
def O_(p q:Aa):IT:=
 .op (.Cl 1) [q] λa=>.ca 143 [p,a] λb=>.iq [b,I 0] λc=>.AH c (.op (.BV [I 0,I 0,.slnil,I 0,I 0,S [],.slnil,S [],S [],S [],ff,I 0,I 0] []) [] λd=>.cells 13 d λe=>.rr [.tuple [mz e,b]]) (.ca 96 [p,q] λf=>.ca 195 [f] λh=>.cells 13 h λj=>.rr [.tuple [mz j,I 0]])
def cD:ES cx 101 O_:=λ_ _=>AF
def P_(p q r u:Aa):IT:=
 .cells 12 r λa=>.ca 104 [p,I 0] λb=>.op (.ext 0) [b] λc=>.op (.ext 1) [b] λd=>.D4 q [Er a,u,c] λe=>.cells 4 e λf=>.iq [g f 0,I 0] λh=>.AH h (.ca 97 [p,g f 0,c,d] λ_=>.fa p 2 λ_ j=>.ca 98 [j,a4 f] λ_=>.rr [g f 0]) (.rr [g f 0])
def cE:Tq4 cx 102 P_:=λ_ _ _ _=>AF
def aAT(p q:Aa):IT:=
 .cells 3 q λa=>.op (.Ru false) [p,.ptr none] λb=>.AH b (.rr [.tuple []]) (.iq [g a 0,I 0] λc=>.F9 100011 (.AH c (.BT p 0 λ_ _ d=>.ln [d] λe=>.ib [e,I 1] λf=>.loop 5 [I 0,I 0,f] (λh=>.ca 131 [p] λj=>.ih [g h 2,j] λk=>.AH k (.BT p 0 λ_ _ m=>.ea 3 [m,g h 2] λn=>.load (some 3) n λo=>.ca 196 [o,a3 a] λs=>.F9 100032 (.AH s (.ia [g h 1,I 1] λu=>.rn [g h 2,u]) (.rn [g h 0,g h 1])) (λx w=>match x with| .normal=>.ib [g h 2,I 1] λy=>.rn [g w 0,g w 1,y]| .exit i=>if i=1 then .ib [g h 2,I 1] λz=>.rn [g w 0,g w 1,z] else .ret (.exit i) [g w 0,g w 1,g h 2]| .ret=>.rr [g w 0,g w 1,g h 2])) (.rx 0 [g h 0,g h 1,g h 2])) (λx a0=>match x with| .normal=>.fail| .exit i=>if i=0 then .ih [g a0 1,I 3] λa1=>.F9 100037 (.AH a1 (.BT p 0 λ_ _ a2=>.ca 197 [a2,g a0 0] λa5=>.fa p 0 λ_ a7=>.store 1 a7 a5 (.rn [])) (.rn [])) (λx _=>.ret x []) else .ret (.exit i) []| .ret=>.rr [])) (.rn [])) (nx (λa8=>.BT p 0 λ_ b0 b1=>.BT p 0 λ_ b2 b3=>.ln [b3] λb4=>.ca 198 [a3 a] λb5=>.ld b2 λb6=>.same b3 b6 (.ld b0 λb7=>.same b1 b7 (.ca 129 [b1,b5,b4] λb8=>.fa p 0 λ_ b9=>.store 1 b9 b8 (.rr [.tuple []])))) λa8=>.rr [.tuple []]))
def tJ:ES cx 103 aAT:=λ_ _=>AF
def Q_(p q:Aa):IT:=
 .ca 83 [p] λa=>.nt [a] λb=>.AH b (.rr [.tuple [I 0,I 0]]) (.ie [q,I 0] λc=>.F9 100012 (.AH c (.fa p 2 λ_ d=>.ca 116 [d] λe=>.ie [e,I 0] λf=>.AH f (.BT p 1 λ_ _ h=>.rr [q,h,I 0]) (.ca 120 [p] λj=>.op (.part 0 none) [j] λk=>.rn [k,I 0,I 0])) (.rn [q,I 0,I 0])) (nx (λm=>.ca 105 [p,g m 0] λn=>.cells 13 n λo=>.F9 200009 (.BT p 15 λ_ _ s=>.AH s (.ie [g o 0,I 4] λu=>.AH u (.op (.BV [I 0,I 0,S [],ff] [(1,1),(2,1)]) [g o 4,g o 5] λw=>.op (.Cl 1) [S aTL,S aUi,S aUh,S aUj,S [116,114]] λy=>.ca 100 [w,y] λz=>.rn [z]) (.rn [ff])) (.rn [ff])) (nx (λa0=>.F9 100046 (.AH (g a0 0) (.ca 199 [p] λa1=>.op (.ext 0) [a1] λa2=>.op (.ext 1) [a1] λa5=>.rn [a2,a5]) (.rn [g m 0,g m 2])) (nx (λa7=>.ca 105 [p,g a7 0] λa8=>.cells 13 a8 λb0=>.iq [g b0 11,I 0] λb1=>.AH b1 (.rr [.tuple [g b0 11,I 0]]) (.rr [.tuple [g a7 0,g a7 1]])) λa7=>.rr [.tuple [g a7 0,g a7 1]])) λa0=>.rr [.tuple [g m 0,g m 2]])) λm=>.rr [.tuple [g m 1,g m 2]]))
def cF:ES cx 104 Q_:=λ_ _=>AF
end Go.Am
