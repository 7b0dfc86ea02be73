/- Lemmas -/
import Derived.Test.YtdbnpiefklklhaaGreatDoorH9
import Derived.Test.YtdbnpiefklklhaaGreatDoorH18
set_option linter.all false
namespace Go.Am
open Go
def t35(p q:Aa):IT:=
 .ca 89 [p] λa=>.ca 89 [q] λb=>.iq [a,b] λc=>.AD c (.rr [ff]) (.op (.Qp false) [p,.ptr none] λd=>.AD d (.rr [tt]) (.op (.Qp false) [q,.ptr none] λe=>.AD e (.rr [tt]) (.BP p 0 λ_ _ f=>.ln [f] λh=>.loop 6 [ff,I 0] (λj=>.il [g j 1,h] λk=>.AD k (.BP p 0 λ_ _ m=>.ea 13 [m,g j 1] λn=>.op (.Fb 0) [n] λo=>.load (some 13) o λs=>.BP q 0 λ_ _ u=>.ea 13 [u,g j 1] λw=>.op (.Fb 0) [w] λy=>.load (some 13) y λz=>.cells 13 s λa0=>.cells 13 z λa1=>.ca 90 [g a0 2,g a1 2] λa2=>.nt [a2] λa5=>.AD a5 (.rr [ff,g j 1]) (.ca 91 [.BR [g a0 0,g a0 1,g a0 2,g a0 3,g a0 4,g a0 5,g a0 6,g a0 7,g a0 8,g a0 9,g a0 10,g a0 11,g a0 12],.BR [g a1 0,g a1 1,g a1 2,g a1 3,g a1 4,g a1 5,g a1 6,g a1 7,g a1 8,g a1 9,g a1 10,g a1 11,g a1 12]] λa7=>.nt [a7] λa8=>.AD a8 (.rr [ff,g j 1]) (.fl (.BR [g a0 0,g a0 1,g a0 2,g a0 3,g a0 4,g a0 5,g a0 6,g a0 7,g a0 8,g a0 9,g a0 10,g a0 11,g a0 12]) 1 λ_ b0=>.fl (.BR [g a1 0,g a1 1,g a1 2,g a1 3,g a1 4,g a1 5,g a1 6,g a1 7,g a1 8,g a1 9,g a1 10,g a1 11,g a1 12]) 1 λ_ b1=>.iq [b0,b1] λb2=>.AD b2 (.rr [ff,g j 1]) (.fl (.BR [g a0 0,g a0 1,g a0 2,g a0 3,g a0 4,g a0 5,g a0 6,g a0 7,g a0 8,g a0 9,g a0 10,g a0 11,g a0 12]) 3 λ_ b3=>.fl (.BR [g a1 0,g a1 1,g a1 2,g a1 3,g a1 4,g a1 5,g a1 6,g a1 7,g a1 8,g a1 9,g a1 10,g a1 11,g a1 12]) 3 λ_ b4=>.iq [b3,b4] λb5=>.AD b5 (.rr [ff,g j 1]) (.fl (.BR [g a0 0,g a0 1,g a0 2,g a0 3,g a0 4,g a0 5,g a0 6,g a0 7,g a0 8,g a0 9,g a0 10,g a0 11,g a0 12]) 11 λ_ b6=>.fl (.BR [g a1 0,g a1 1,g a1 2,g a1 3,g a1 4,g a1 5,g a1 6,g a1 7,g a1 8,g a1 9,g a1 10,g a1 11,g a1 12]) 11 λ_ b7=>.iq [b6,b7] λb8=>.AD b8 (.rr [ff,g j 1]) (.fl (.BR [g a0 0,g a0 1,g a0 2,g a0 3,g a0 4,g a0 5,g a0 6,g a0 7,g a0 8,g a0 9,g a0 10,g a0 11,g a0 12]) 12 λ_ b9=>.fl (.BR [g a1 0,g a1 1,g a1 2,g a1 3,g a1 4,g a1 5,g a1 6,g a1 7,g a1 8,g a1 9,g a1 10,g a1 11,g a1 12]) 12 λ_ c0=>.iq [b9,c0] λc1=>.AD c1 (.rr [ff,g j 1]) (.ia [g j 1,I 1] λc2=>.rn [g j 0,c2]))))))) (.rx 0 [g j 0,g j 1])) (lx 0 (λc3=>.BP p 1 λ_ _ c4=>.BP q 1 λ_ _ c5=>.ca 92 [c4,c5] λc6=>.rr [c6]) λc3=>.rr [g c3 0]))))
def aAG:EB cx 35 t35:=λ_ _=>AA
def t36(p q:Aa):IT:=
 .cells 12 q λa=>.op (.Qp true) [p,.ptr none] λb=>.AD b (.BP p 0 λ_ _ c=>.op (.Qp true) [c,.ptr none] λd=>.AD d (.ih [g a 0,I 1] λe=>.AD e (.ik [g a 0,I 6] λf=>.rr [f]) (.rr [ff])) (.rr [ff])) (.rr [ff])
def ph:EB cx 36 t36:=λ_ _=>AA
def t37(p:Aa):IT:=
 .fa p 1 λ_ a=>.fl a 11 λ_ b=>.ie [b,.int .i32 0] λc=>.AD c (.rr [.tuple []]) (.BP p 0 λ_ _ d=>.ca 41 [d] λ_=>.BP p 0 λ_ _ e=>.fa p 1 λ_ f=>.fl f 11 λ_ h=>.ca 55 [e,h] λ_=>.fa p 1 λ_ j=>.load (some 12) j λk=>.ca 69 [k] λm=>.nt [m] λn=>.AD n (.BP p 0 λ_ _ o=>.fa o 14 λ_ s=>.store 1 s ff (.rr [.tuple []])) (.rr [.tuple []]))
def cC:FC cx 37 t37:=λ_=>AA
def t38(p q r:Aa):IT:=
 .ca 87 [p] λa=>.nt [a] λb=>.AD b (.rr [.tuple []]) (.ie [r,I 0] λc=>.FZ 100014 (.AD c (.ca 93 [p,I 0] λd=>.op (.ext 0) [d] λe=>.op (.ext 1) [d] λf=>.rn [e,f]) (.rn [r,I 0])) (nx (λh=>.ca 94 [p,g h 0] λj=>.cells 13 j λk=>.FZ 200005 (.iq [g k 0,I 1] λm=>.AD m (.iq [g k 0,I 2] λn=>.AD n (.iq [g k 0,I 4] λo=>.rn [o]) (.rn [ff])) (.rn [ff])) (nx (λs=>.AD (g s 0) (.rr [.tuple []]) (.BP p 0 λ_ _ u=>.ca 95 [u,g k 3,q] λw=>.op (.ext 0) [w] λy=>.op (.ext 1) [w] λz=>.ie [z,I 0] λa0=>.FZ 100048 (.AD a0 (.ca 96 [p,y,g h 0,g h 1] λ_=>.rn []) (.rn [])) (nx (λa1=>.rr [.tuple []]) λa1=>.rr [.tuple []]))) λs=>.rr [.tuple []])) λh=>.rr [.tuple []]))
def oW:QB cx 38 t38:=λ_ _ _=>AA
def t39(p:Aa):IT:=
 .ca 87 [p] λa=>.AD a (.fa p 19 λ_ b=>.store 1 b tt (.rr [.tuple []])) (.rr [.tuple []])
def pj:FC cx 39 t39:=λ_=>AA
def t40:IT:=
 .MX λa=>.ca 97 [a,S aTw,.func (.func 98) [] []] λ_=>.ca 99 [.func (.func 100) [] []] λb=>.ca 97 [a,S aTx,b] λ_=>.ca 99 [.func (.func 101) [] []] λc=>.ca 97 [a,S aTL,c] λ_=>.ca 99 [.func (.func 102) [] []] λd=>.ca 97 [a,S aUX,d] λ_=>.ca 99 [.func (.func 103) [] []] λe=>.ca 97 [a,S aTM,e] λ_=>.ca 99 [.func (.func 104) [] []] λf=>.ca 97 [a,S aTR,f] λ_=>.ca 99 [.func (.func 105) [] []] λh=>.ca 97 [a,S aTE,h] λ_=>.ca 97 [a,S aTv,.func (.func 106) [] []] λ_=>.ca 99 [.func (.func 107) [] []] λj=>.ca 97 [a,S aTW,j] λ_=>.ca 99 [.func (.func 108) [] []] λk=>.ca 97 [a,S aUY,k] λ_=>.ca 99 [.func (.func 109) [] []] λm=>.ca 97 [a,S aVi,m] λ_=>.ca 99 [.func (.func 110) [] []] λn=>.ca 97 [a,S aVj,n] λ_=>.ca 99 [.func (.func 111) [] []] λo=>.ca 97 [a,S aUF,o] λ_=>.ca 99 [.func (.func 112) [] []] λs=>.ca 97 [a,S aVd,s] λ_=>.ca 99 [.func (.func 113) [] []] λu=>.ca 99 [.func (.func 114) [] []] λw=>.ca 99 [.func (.func 115) [] []] λy=>.mem (.VB .nilFunc) [a,S aTJ] λz=>.op (.ext 1) [z] λa0=>.mem .J5 [a,a0,u] λ_=>.Hw a (S aUa) w (.Hw a (S aTC) y (.ca 99 [.func (.func 116) [] []] λa1=>.ca 99 [.func (.func 117) [] []] λa2=>.ca 99 [.func (.func 118) [] []] λa5=>.ca 99 [.func (.func 119) [] []] λa7=>.mem (.VB .nilFunc) [a,S [97]] λa8=>.op (.ext 1) [a8] λb0=>.mem .J5 [a,b0,a1] λ_=>.Hw a (S aTZ) a2 (.Hw a (S aTO) a5 (.Hw a (S aUf) a7 (.rr [a])))))
def pk:B4 cx 40 []=t40:=AA
def t41(p:Aa):IT:=
 .ca 87 [p] λa=>.nt [a] λb=>.AD b (.H7 3 p (.rr [.tuple []])) (.fa p 3 λ_ c=>.fl c 0 λ_ d=>.ln [d] λe=>.loop 2 [e] (λf=>.ig [g f 0,I 0] λh=>.AD h (.fa p 3 λ_ j=>.fl j 0 λ_ k=>.ib [g f 0,I 1] λm=>.ea 3 [k,m] λn=>.fl n 0 λ_ o=>.iq [o,I 0] λs=>.AD s (.fa p 2 λ_ u=>.fa p 3 λ_ w=>.fl w 0 λ_ y=>.ib [g f 0,I 1] λz=>.ea 3 [y,z] λa0=>.fl a0 0 λ_ a1=>.ca 120 [u,a1] λa2=>.il [a2,I 0] λa5=>.AD a5 (.ib [g f 0,I 1] λa7=>.rn [a7]) (.rx 0 [g f 0])) (.rx 0 [g f 0])) (.rx 0 [g f 0])) (lx 0 (λa8=>.fa p 3 λ_ b0=>.fl b0 0 λ_ b1=>.ca 121 [b1] λb2=>.fa p 3 λ_ b3=>.op (.Fb 0) [b3] λb4=>.store 1 b4 b2 (.loop 5 [g a8 0] (λb5=>.fa p 3 λ_ b6=>.fl b6 0 λ_ b7=>.ln [b7] λb8=>.il [g b5 0,b8] λb9=>.AD b9 (.fa p 3 λ_ c0=>.fl c0 0 λc1 c2=>.fa p 3 λ_ c3=>.fl c3 0 λ_ c4=>.ea 3 [c4,g b5 0] λc5=>.load (some 3) c5 λc6=>.ca 122 [c6] λc8=>.ld c1 λc9=>.same c2 c9 (.ca 42 [p,c8] λd0=>.ld c1 λd1=>.same c2 d1 (.ea 3 [c2,g b5 0] λd2=>.op (.Fb 0) [d2] λd3=>.store 1 d3 d0 (.ia [g b5 0,I 1] λd4=>.rn [d4])))) (.rx 2 [g b5 0])) (lx 2 (λd5=>.H7 3 p (.rr [.tuple []])) λd5=>.H7 3 p (.rr [.tuple []])))) λa8=>.H7 3 p (.rr [.tuple []])))
def pq:FC cx 41 t41:=λ_=>AA
def t42(p q:Aa):IT:=
 .cells 12 q λa=>.ca 53 [p,EY a,I 1] λb=>.rr [b]
def pt:EB cx 42 t42:=λ_ _=>AA
def t43:IT:=
 .MX λa=>.Hw a (S aTz) (.func (.func 98) [] []) (.Hw a (S aTF) (.func (.func 123) [] []) (.Hw a (S aTA) (.func (.func 123) [] []) (.ca 99 [.func (.func 124) [] []] λb=>.ca 97 [a,S aTu,b] λ_=>.ca 99 [.func (.func 125) [] []] λc=>.ca 97 [a,S aTH,c] λ_=>.ca 99 [.func (.func 126) [] []] λd=>.ca 97 [a,S aTL,d] λ_=>.ca 99 [.func (.func 127) [] []] λe=>.ca 97 [a,S aTR,e] λ_=>.ca 99 [.func (.func 128) [] []] λf=>.ca 97 [a,S aU8,f] λ_=>.ca 99 [.func (.func 129) [] []] λh=>.Hw a (S aUa) h (.ca 99 [.func (.func 130) [] []] λj=>.Hw a (S [98,114]) j (.rr [a])))))
def pv:B4 cx 43 []=t43:=AA
def t44(p q:Aa):IT:=
 .ca 87 [p] λa=>.nt [a] λb=>.AD b (.rr [.tuple []]) (.fa p 2 λ_ c=>.ca 131 [c] λd=>.ib [d,I 1] λe=>.loop 2 [e] (λf=>.ih [g f 0,I 0] λh=>.AD h (.fa p 2 λ_ j=>.ca 132 [j,g f 0] λk=>.cells 4 k λm=>.op (.Ch 1) [q] λn=>.ca 133 [a4 m,n] λo=>.AD o (.fa p 2 λ_ s=>.ca 134 [s,q] λ_=>.fa p 2 λ_ u=>.ca 135 [u,g m 0] λ_=>.rr [g f 0]) (.Bn 136 [g m 1,g m 2] λw=>.AD w (.rr [g f 0]) (.ib [g f 0,I 1] λy=>.rn [y]))) (.rx 0 [g f 0])) (lx 0 (λz=>.rr [.tuple []]) λz=>.rr [.tuple []]))
def px:EB cx 44 t44:=λ_ _=>AA
def t45(p q:Aa):IT:=
 .loop 2 [ff,I 0] (λa=>.lt [p] λb=>.il [g a 1,b] λc=>.AD c (.op .Rz [p,g a 1] λd=>.ie [d,q] λe=>.AD e (.rr [tt,g a 1]) (.ia [g a 1,I 1] λf=>.rn [g a 0,f])) (.rx 0 [g a 0,g a 1])) (lx 0 (λh=>.rr [ff]) λh=>.rr [g h 0])
def aAH:EB cx 45 t45:=λ_ _=>AA
def t46(p:Aa):IT:=
 .ca 137 [] λa=>.op (.Qp false) [a,.ptr none] λb=>.AD b (.rr [.tuple [.ptr none,ff]]) (.loop 5 [.ptr none,ff,I 0] (λc=>.ln [p] λd=>.il [g c 2,d] λe=>.AD e (.ea 12 [p,g c 2] λf=>.load (some 12) f λh=>.ca 138 [a,h] λj=>.nt [j] λk=>.AD k (.rr [.ptr none,ff,g c 2]) (.BP a 4 λ_ _ m=>.Bn 139 [m] λn=>.nt [n] λo=>.AD o (.rr [a,ff,g c 2]) (.ia [g c 2,I 1] λs=>.rn [g c 0,g c 1,s]))) (.rx 0 [g c 0,g c 1,g c 2])) (lx 0 (λu=>.rr [.tuple [a,tt]]) λu=>.rr [.tuple [g u 0,g u 1]]))
def aAI:FC cx 46 t46:=λ_=>AA
def t48:IT:=
 .op (.B6 [.slnil,.map none] []) [] λa=>.alloc 2 a λb=>.rr [b]
def py:B4 cx 48 []=t48:=AA
def t49(p q:Aa):IT:=
 .op (.Qp false) [p,.ptr none] λa=>.AD a (.rr [I 0]) (.op (.B6 [I 0,I 0,.slnil,I 0,I 0,S [],.slnil,S [],S [],S [],ff,I 0,I 0] [(0,1),(10,1)]) [I 1,q] λb=>.ca 143 [p,b] λc=>.ca 144 [p,c] λd=>.fa d 0 λ_ e=>.op (.Fb 3) [e] λf=>.store 1 f c (.rr [c]))
def oX:EB cx 49 t49:=λ_ _=>AA
def t50(p q r:Aa):IT:=
 .cells 5 r λa=>.ca 51 [p,q] λb=>.op (.Qp false) [b,.ptr none] λc=>.AD c (.rr [.ptr none]) (.op (.B6 [I 0,S [],ff,S [],ff,S [],ff,ff,.slnil,ff,S [],.int .i32 0] [(0,1),(1,1)]) [I 2,S aTA] λd=>.ca 67 [b,d,I 1,q] λe=>.cells 4 e λf=>.ca 96 [b,g f 0,q,I 0] λ_=>.fa b 2 λ_ h=>.ca 145 [h,a4 f] λ_=>.fa b 9 λ_ j=>.store 1 j tt (.ca 146 [g a 0,g a 1,g a 2] λk=>.op (.B6 [I 0,I 0,S [],ff] [(1,1),(2,1),(3,1)]) [g a 0,g a 1,k] λm=>.fa b 10 λ_ n=>.store 4 n m (.fa b 10 λ_ o=>.load (some 4) o λs=>.op (.Ch 1) [S aTz] λu=>.ca 133 [s,u] λw=>.AD w (.op (.Ch 1) [I 18] λy=>.fa b 6 λ_ z=>.store 1 z y (.ca 59 [b] λ_=>.AD (g a 4) (.fa b 8 λ_ a0=>.store 1 a0 (I (-1)) (.rr [b])) (.rr [b]))) (.ca 59 [b] λ_=>.AD (g a 4) (.fa b 8 λ_ a1=>.store 1 a1 (I (-1)) (.rr [b])) (.rr [b])))))
def cD:QB cx 50 t50:=λ_ _ _=>AA
def t51(p q:Aa):IT:=
 .ca 147 [p,q] λa=>.op (.ext 0) [a] λb=>.op (.ext 1) [a] λc=>.cells 13 b λd=>.iq [c,I 0] λe=>.AD e (.rr [.ptr none]) (.iq [g d 0,I 1] λf=>.AD f (.rr [.ptr none]) (.op (.B6 [.ptr none,I 0,.slnil,.slnil,I 0,I 0,.slnil,I 0,I 0,ff,I 0,I 0,S [],ff,ff,ff,S [],ff,I 0,ff] [(0,1),(1,1),(4,1),(14,1)]) [p,q,I 1,tt] λh=>.alloc 20 h λj=>.rr [j]))
def pz:EB cx 51 t51:=λ_ _=>AA
def t52(p:Aa):IT:=
 .cells 9 p λa=>.op (.append 3 40) [.slnil,g a 2] λb=>.op (.B6 [I 0,S [],ff,S [],ff,S [],ff,ff,.slnil,ff,S [],.int .i32 0] [(0,1),(1,1),(8,1)]) [I 2,g a 1,b] λc=>.cells 12 c λd=>.rr [EY d]
def aAJ:FC cx 52 t52:=λ_=>AA
def t53(p q r:Aa):IT:=
 .cells 12 q λa=>.ca 87 [p] λb=>.nt [b] λc=>.AD c (.rr [I 0]) (.ca 148 [p,.func (.func 67) [p] [],EY a,r] λd=>.rr [d])
def p_:QB cx 53 t53:=λ_ _ _=>AA
def t54(p q:Aa):IT:=
 .cells 12 q λa=>.ca 42 [p,EY a] λb=>.iq [b,I 0] λc=>.AD c (.fa p 3 λ_ d=>.op (.B6 [I 0,S [],.slnil] [(0,1),(1,1),(2,1)]) [b,g a 1,g a 8] λe=>.ca 149 [d,e] λ_=>.rr [b]) (.rr [b])
def qa:EB cx 54 t54:=λ_ _=>AA
def t55(p q:Aa):IT:=
 .ca 87 [p] λa=>.nt [a] λb=>.AD b (.rr [.tuple []]) (.ca 93 [p,I 0] λc=>.op (.ext 0) [c] λd=>.op (.ext 1) [c] λe=>.ca 94 [p,d] λf=>.cells 13 f λh=>.FZ 200003 (.iq [g h 0,I 4] λj=>.AD j (.iq [g h 0,I 2] λk=>.rn [k]) (.rn [ff])) (nx (λm=>.AD (g m 0) (.rr [.tuple []]) (.ln [g h 2] λn=>.iq [e,I 0] λo=>.FZ 100035 (.AD o (.ca 150 [g h 2,e] λs=>.rn [s]) (.rn [n])) (nx (λu=>.ca 151 [.slnil,q] λw=>.UI w λy=>.op .X8 [y] λz=>.ig [g u 0,I 0] λa0=>.FZ 100044 (.AD a0 (.ib [g u 0,I 1] λa1=>.ea 1 [g h 2,a1] λa2=>.ld a2 λa5=>.ca 94 [p,a5] λa7=>.cells 13 a7 λa8=>.ie [g a8 0,I 5] λb0=>.AD b0 (.BP p 0 λ_ _ b1=>.ib [g u 0,I 1] λb2=>.ea 1 [g h 2,b2] λb3=>.ld b3 λb4=>.op (.str .add) [g a8 7,z] λb5=>.ca 152 [b1,b4,b5] λ_=>.rr []) (.rn [])) (.rn [])) (nx (λb6=>.BP p 0 λ_ _ b7=>.ca 153 [b7,g h 3,z] λb8=>.op (.ext 0) [b8] λb9=>.op (.ext 1) [b8] λc0=>.ie [c0,I 0] λc1=>.FZ 100083 (.AD c1 (.ca 96 [p,b9,d,e] λ_=>.rn []) (.rn [])) (nx (λc2=>.rr [.tuple []]) λc2=>.rr [.tuple []])) λb6=>.rr [.tuple []])) λu=>.rr [.tuple []]))) λm=>.rr [.tuple []]))
def Xl:EB cx 55 t55:=λ_ _=>AA
def t56(p q r:Aa):IT:=
 .cells 12 q λa=>.ca 87 [p] λb=>.AD b (.ca 42 [p,EY a] λ_=>.BP p 4 λ_ _ c=>.fa p 18 λ_ d=>.store 1 d r (.fa p 5 λ_ e=>.store 1 e c (.fa p 4 λ_ f=>.store 1 f (I 8) (.rr [.tuple []])))) (.rr [.tuple []])
def qb:QB cx 56 t56:=λ_ _ _=>AA
def t57(p:Aa):IT:=
 .ca 87 [p] λa=>.AD a (.fa p 2 λ_ b=>.op (.Ch 1) [S [112]] λc=>.ca 154 [b,I 3,c] λd=>.AD d (.fa p 2 λ_ e=>.ca 134 [e,S [112]] λ_=>.fa p 2 λ_ f=>.op (.Ch 1) [S [112]] λh=>.ca 66 [f,h] λ_=>.rr [.tuple []]) (.rr [.tuple []])) (.rr [.tuple []])
def oY:FC cx 57 t57:=λ_=>AA
def t58(p q:Aa):IT:=
 .ca 87 [p] λa=>.nt [a] λb=>.AD b (.rr [.tuple []]) (.ca 155 [p] λc=>.cells 4 c λd=>.op (.Ch 1) [q] λe=>.ca 133 [a4 d,e] λf=>.AD f (.fa p 3 λ_ h=>.ca 156 [h,g d 0] λj=>.il [j,I 0] λk=>.AD k (.fa p 2 λ_ m=>.ca 64 [m] λ_=>.rr [.tuple []]) (.loop 5 [I 0] (λn=>.il [g n 0,I 8] λo=>.AD o (.ca 157 [p,q] λs=>.nt [s] λu=>.AD u (.rr [g n 0]) (.ia [g n 0,I 1] λw=>.rn [w])) (.rx 0 [g n 0])) (lx 0 (λy=>.rr [.tuple []]) λy=>.rr [.tuple []]))) (.loop 5 [I 0] (λz=>.il [g z 0,I 8] λa0=>.AD a0 (.ca 157 [p,q] λa1=>.nt [a1] λa2=>.AD a2 (.rr [g z 0]) (.ia [g z 0,I 1] λa5=>.rn [a5])) (.rx 0 [g z 0])) (lx 0 (λa7=>.rr [.tuple []]) λa7=>.rr [.tuple []])))
def oZ:EB cx 58 t58:=λ_ _=>AA
def t59(p:Aa):IT:=
 .ca 87 [p] λa=>.nt [a] λb=>.AD b (.rr [.tuple []]) (.fa p 4 λ_ c=>.store 1 c (I 7) (.fa p 2 λ_ d=>.ca 131 [d] λe=>.ib [e,I 1] λf=>.loop 3 [f] (λh=>.ih [g h 0,I 0] λj=>.AD j (.fa p 2 λ_ k=>.ca 132 [k,g h 0] λm=>.cells 4 m λn=>.ie [g h 0,I 0] λo=>.AD o (.BP p 9 λ_ _ s=>.AD s (.fa p 10 λ_ u=>.load (some 4) u λw=>.cells 4 w λy=>.ca 158 [p,a4 y,g h 0] λz=>.op (.ext 0) [z] λa0=>.op (.ext 1) [z] λa1=>.AD a1 (.fa p 4 λ_ a2=>.store 1 a2 a0 (.rr [g h 0])) (.ib [g h 0,I 1] λa5=>.rn [a5])) (.ca 158 [p,a4 n,g h 0] λa7=>.op (.ext 0) [a7] λa8=>.op (.ext 1) [a7] λb0=>.AD b0 (.fa p 4 λ_ b1=>.store 1 b1 a8 (.rr [g h 0])) (.ib [g h 0,I 1] λb2=>.rn [b2]))) (.ca 158 [p,a4 n,g h 0] λb3=>.op (.ext 0) [b3] λb4=>.op (.ext 1) [b3] λb5=>.AD b5 (.fa p 4 λ_ b6=>.store 1 b6 b4 (.rr [g h 0])) (.ib [g h 0,I 1] λb7=>.rn [b7]))) (.rx 0 [g h 0])) (lx 0 (λb8=>.rr [.tuple []]) λb8=>.rr [.tuple []])))
def qc:FC cx 59 t59:=λ_=>AA
def t60(p q r:Aa):IT:=
 .cells 12 q λa=>.ca 87 [p] λb=>.nt [b] λc=>.AD c (.rr [.tuple []]) (.ca 94 [p,r] λd=>.op (.part 0 none) [d] λe=>.iq [e,I 4] λf=>.AD f (.rr [.tuple []]) (.ca 94 [p,r] λh=>.op (.part 6 none) [h] λj=>.ln [g a 8] λk=>.loop 4 [j,I 0] (λm=>.il [g m 1,k] λn=>.AD n (.ea 3 [g a 8,g m 1] λo=>.load (some 3) o λs=>.cells 3 s λu=>.ca 159 [g m 0,.func (.func 160) [] [.BR [g u 0,g u 1,g u 2]]] λw=>.nt [w] λy=>.AD y (.fl (.BR [g u 0,g u 1,g u 2]) 1 λ_ z=>.fl (.BR [g u 0,g u 1,g u 2]) 2 λ_ a0=>.op (.B6 [I 0,S [],S []] [(1,1),(2,1)]) [z,a0] λa1=>.op (.Ch 3) [a1] λa2=>.FH 3 40 (g m 0) a2 λa5=>.ia [g m 1,I 1] λa7=>.rn [a5,a7]) (.ia [g m 1,I 1] λa8=>.rn [g m 0,a8])) (.rx 0 [g m 0,g m 1])) (lx 0 (λb0=>.BP p 0 λ_ _ b1=>.ca 161 [b1,r,g b0 0] λ_=>.rr [.tuple []]) λb0=>.rr [.tuple []])))
def o7:QB cx 60 t60:=λ_ _ _=>AA
def t61(p:Aa):IT:=
 .ca 87 [p] λa=>.nt [a] λb=>.AD b (.rr [.tuple []]) (.fa p 2 λ_ c=>.ca 162 [c,S aTz] λd=>.il [d,I 0] λe=>.AD e (.rr [.tuple []]) (.fa p 2 λ_ f=>.ca 163 [f] λ_=>.fa p 2 λ_ h=>.op (.Ch 1) [S aTz] λj=>.ca 66 [h,j] λ_=>.fa p 3 λ_ k=>.ca 65 [k] λ_=>.BP p 6 λ_ _ m=>.ln [m] λn=>.ig [n,I 0] λo=>.AD o (.BP p 6 λ_ _ s=>.ib [n,I 1] λu=>.op (.OM 1 false false true) [s,u] λw=>.ca 80 [w] λy=>.fa p 6 λ_ z=>.store 1 z y (.ca 59 [p] λ_=>.rr [.tuple []])) (.ca 59 [p] λ_=>.rr [.tuple []])))
def cE:FC cx 61 t61:=λ_=>AA
def t62(p:Aa):IT:=
 .op (.Qp true) [p,.ptr none] λa=>.AD a (.BP p 0 λ_ _ b=>.op (.B6 [I 0,S [],.slnil] []) [] λc=>.BP p 0 λ_ _ d=>.ln [d] λe=>.ca 164 [b,c,e] λf=>.fa p 0 λ_ h=>.store 1 h f (.rr [.tuple []])) (.rr [.tuple []])
def qd:FC cx 62 t62:=λ_=>AA
def t63(p:Aa):IT:=
 .cells 4 p λa=>.op (.B6 [I 0,I 0,S [],ff] [(0,1),(1,1),(2,1),(3,1)]) [g a 0,g a 1,g a 2,g a 3] λb=>.cells 4 b λc=>.rr [a4 c]
def aAK:FC cx 63 t63:=λ_=>AA
def t64(p:Aa):IT:=
 .ca 131 [p] λa=>.il [a,I 2] λb=>.AD b (.op (.B6 [I 0,I 0,S [],ff] []) [] λc=>.cells 4 c λd=>.rr [a4 d]) (.ca 165 [p] λe=>.cells 4 e λf=>.BP p 0 λ_ _ h=>.BP p 0 λ_ _ j=>.ln [j] λk=>.ib [k,I 1] λm=>.op (.OM 4 false false true) [h,m] λn=>.fa p 0 λ_ o=>.store 1 o n (.cells 4 (a4 f) λs=>.rr [a4 s]))
def cF:FC cx 64 t64:=λ_=>AA
def t65(p:Aa):IT:=
 .op (.Qp false) [p,.ptr none] λa=>.AD a (.rr [I 0]) (.BP p 0 λ_ _ b=>.ln [b] λc=>.BP p 0 λ_ d e=>.ca 166 [p] λf=>.ld d λh=>.same e h (.ib [f,I 1] λj=>.op (.K4 true) [j,I 0] λk=>.op (.OM 3 false false true) [e,k] λm=>.fa p 0 λ_ n=>.store 1 n m (.BP p 0 λ_ _ o=>.ln [o] λs=>.ib [c,s] λu=>.rr [u])))
def qe:FC cx 65 t65:=λ_=>AA
def t66(p q:Aa):IT:=
 .cells 1 q λa=>.ca 167 [p,.func (.func 168) [] [],.func (.func 169) [] [.BR [g a 0]]] λb=>.rr [b]
def qg:EB cx 66 t66:=λ_ _=>AA
def t67(p q r u:Aa):IT:=
 .cells 12 q λa=>.FZ 200001 (.ca 87 [p] λb=>.nt [b] λc=>.AD c (.rn [tt]) (.il [r,I 0] λd=>.AD d (.rn [tt]) (.ig [r,I 7] λe=>.rn [e]))) (nx (λf=>.AD (g f 0) (.op (.B6 [I 0,I 0,S [],ff] []) [] λh=>.cells 4 h λj=>.rr [a4 j]) (.ca 171 [r,g a 8] λk=>.ie [r,I 2] λm=>.FZ 100032 (.AD m (.Bn 172 [g a 1] λn=>.rn [n]) (.rn [g a 1])) (nx (λo=>.BP p 0 λ_ s w=>.ca 174 [p,u] λy=>.ld s λz=>.same w z (.ca 173 [w,y,r,g o 0,k] λa0=>.op (.ext 0) [a0] λa1=>.op (.ext 1) [a0] λa2=>.iq [a2,I 0] λa5=>.AD a5 (.op (.B6 [I 0,I 0,S [],ff] []) [] λa7=>.cells 4 a7 λa8=>.rr [a4 a8]) (.ca 146 [r,g o 0,k] λb0=>.op (.B6 [I 0,I 0,S [],ff] [(0,1),(1,1),(2,1),(3,1)]) [a1,r,g o 0,b0] λb1=>.cells 4 b1 λb2=>.rr [a4 b2]))) λo=>.rr [.agg [I 0,I 0,S [],ff]]))) λf=>.rr [.agg [I 0,I 0,S [],ff]])
def o8:Tq4 cx 67 t67:=λ_ _ _ _=>AA
def t68:IT:=
 .MX λa=>.mem .UH [a,I 1,.func (.func 25) [] []] λ_=>.mem .UH [a,I 2,.func (.func 26) [] []] λ_=>.mem .UH [a,I 3,.func (.func 27) [] []] λ_=>.mem .UH [a,I 4,.func (.func 28) [] []] λ_=>.mem .UH [a,I 5,.func (.func 29) [] []] λ_=>.mem .UH [a,I 6,.func (.func 30) [] []] λ_=>.mem .UH [a,I 7,.func (.func 14) [] []] λ_=>.mem .UH [a,I 8,.func (.func 31) [] []] λ_=>.mem .UH [a,I 18,.func (.func 32) [] []] λ_=>.rr [a]
def aAL:B4 cx 68 []=t68:=AA
def t69(p:Aa):IT:=
 .cells 12 p λa=>.ie [g a 0,I 5] λb=>.AD b (.Bn 175 [g a 11] λc=>.rr [c]) (.rr [ff])
def qh:FC cx 69 t69:=λ_=>AA
def t70(p q r:Aa):IT:=
 .ca 176 [p,q] λa=>.iq [a,I 0] λb=>.AD b (.rr [a]) (.ca 144 [p,q] λc=>.fa c 0 λ_ d=>.op (.Fb 10) [d] λe=>.store 1 e r (.rr [I 0]))
def qi:QB cx 70 t70:=λ_ _ _=>AA
def t71(p q:Aa):IT:=
 .fa p 4 λ_ a=>.store 1 a q (.rr [tt])
def qj:EB cx 71 t71:=λ_ _=>AA
def t72(p q r u w:Aa):IT:=
 .op (.B6 [I 0,I 0,.slnil,I 0,I 0,S [],.slnil,S [],S [],S [],ff,I 0,I 0] [(0,1),(5,1),(8,1),(9,1)]) [I 3,r,u,w] λa=>.ca 177 [p,q,a] λb=>.op (.ext 0) [b] λc=>.op (.ext 1) [b] λd=>.rr [.tuple [c,d]]
def ql:Tq5 cx 72 t72:=λ_ _ _ _ _=>AA
def M_(p q r u:Aa):IT:=
 .op (.Ch 1) [q,r] λa=>.ca 178 [p,a] λb=>.iq [b,I 0] λc=>.AD c (.rr [b]) (.FZ 200004 (.iq [u,I 0] λd=>.AD d (.ca 140 [p,u] λe=>.nt [e] λf=>.rn [f]) (.rn [ff])) (nx (λh=>.AD (g h 0) (.rr [I 3]) (.ca 144 [p,q] λj=>.ca 144 [p,r] λk=>.FZ 200007 (.fa j 0 λ_ m=>.fl m 0 λ_ n=>.iq [n,I 1] λo=>.AD o (.fa j 0 λ_ s=>.fl s 0 λ_ w=>.iq [w,I 2] λy=>.AD y (.fa j 0 λ_ z=>.fl z 0 λ_ a0=>.iq [a0,I 4] λa1=>.rn [a1]) (.rn [ff])) (.rn [ff])) (λx a2=>match x with| .normal=>.AD (g a2 0) (.rr [I 4]) (.fa k 0 λ_ a5=>.fl a5 0 λ_ a7=>.ie [a7,I 1] λa8=>.AD a8 (.rr [I 4]) (.fa k 0 λ_ b0=>.fl b0 0 λ_ b1=>.ie [b1,I 2] λb2=>.AD b2 (.rr [I 4]) (.ca 179 [p,r,q] λb3=>.AD b3 (.rr [I 4]) (.FZ 200012 (.iq [u,I 0] λb4=>.AD b4 (.ie [u,r] λb5=>.AD b5 (.rn [tt]) (.ca 144 [p,u] λb6=>.fa b6 0 λ_ b7=>.fl b7 1 λ_ b8=>.iq [b8,q] λb9=>.rn [b9])) (.rn [ff])) (λx c0=>match x with| .normal=>.AD (g c0 0) (.rr [I 5]) (.ca 180 [p,r] λ_=>.fa j 0 λ_ c1=>.fl c1 2 λ_ c2=>.ln [c2] λc3=>.iq [u,I 0] λc4=>.FZ 100103 (.AD c4 (.fa j 0 λ_ c5=>.fl c5 2 λ_ c7=>.ca 150 [c7,u] λc8=>.rn [c8]) (.rn [c3])) (nx (λc9=>.fa j 0 λ_ d0=>.fl d0 2 λ_ d1=>.op (.Ch 1) [r] λd2=>.mem .zB [d1,g c9 0,d2] λd3=>.fa j 0 λ_ d4=>.op (.Fb 2) [d4] λd5=>.store 1 d5 d3 (.fa k 0 λ_ d6=>.op (.Fb 1) [d6] λd7=>.store 1 d7 q (.rr [I 0]))) λc9=>.rr [I 0]))| .exit i=>if i=0 then .ca 180 [p,r] λ_=>.fa j 0 λ_ d8=>.fl d8 2 λ_ d9=>.ln [d9] λe0=>.iq [u,I 0] λe1=>.FZ 100103 (.AD e1 (.fa j 0 λ_ e2=>.fl e2 2 λ_ e3=>.ca 150 [e3,u] λe4=>.rn [e4]) (.rn [e0])) (nx (λe5=>.fa j 0 λ_ e6=>.fl e6 2 λ_ e7=>.op (.Ch 1) [r] λe8=>.mem .zB [e7,g e5 0,e8] λe9=>.fa j 0 λ_ f0=>.op (.Fb 2) [f0] λf1=>.store 1 f1 e9 (.fa k 0 λ_ f2=>.op (.Fb 1) [f2] λf3=>.store 1 f3 q (.rr [I 0]))) λe5=>.rr [I 0]) else .fail| .ret=>.rr [I 0])))))| .exit i=>if i=0 then .ca 180 [p,r] λ_=>.fa j 0 λ_ f4=>.fl f4 2 λ_ f5=>.ln [f5] λf6=>.iq [u,I 0] λf7=>.FZ 100103 (.AD f7 (.fa j 0 λ_ f8=>.fl f8 2 λ_ f9=>.ca 150 [f9,u] λh0=>.rn [h0]) (.rn [f6])) (nx (λh1=>.fa j 0 λ_ h2=>.fl h2 2 λ_ h3=>.op (.Ch 1) [r] λh4=>.mem .zB [h3,g h1 0,h4] λh5=>.fa j 0 λ_ h6=>.op (.Fb 2) [h6] λh7=>.store 1 h7 h5 (.fa k 0 λ_ h8=>.op (.Fb 1) [h8] λh9=>.store 1 h9 q (.rr [I 0]))) λh1=>.rr [I 0]) else .fail| .ret=>.rr [I 0]))) λh=>.rr [I 0]))
def Ps:Tq4 cx 73 M_:=λ_ _ _ _=>AA
def t74(p:Aa):IT:=
 .cells 12 p λa=>.iq [g a 0,I 1] λb=>.AD b (.rr [ff]) (.AD (g a 7) (.rr [tt]) (.nt [g a 2] λc=>.AD c (.rr [tt]) (.op (.str .neq) [g a 1,S aTA] λd=>.AD d (.rr [tt]) (.nt [g a 4] λe=>.AD e (.rr [ff]) (.op (.Ch 1) [S aT6,S aT7,S [72,84,77,76]] λf=>.ln [f] λh=>.loop 8 [ff,I 0] (λj=>.il [g j 1,h] λk=>.AD k (.ea 1 [f,g j 1] λm=>.ld m λn=>.Bn 182 [g a 3,n] λo=>.AD o (.rr [tt,g j 1]) (.ia [g j 1,I 1] λs=>.rn [g j 0,s])) (.rx 0 [g j 0,g j 1])) (lx 0 (λu=>.fl (.BR [g a 0,g a 1,g a 2,g a 3,g a 4,g a 5,g a 6,g a 7,g a 8,g a 9,g a 10,g a 11]) 6 λ_ w=>.nt [w] λy=>.AD y (.D3 (.func (.func 183) [] [.BR [g a 0,g a 1,g a 2,g a 3,g a 4,g a 5,g a 6,g a 7,g a 8,g a 9,g a 10,g a 11]]) [S aT9] λz=>.AD z (.rr [tt]) (.D3 (.func (.func 183) [] [.BR [g a 0,g a 1,g a 2,g a 3,g a 4,g a 5,g a 6,g a 7,g a 8,g a 9,g a 10,g a 11]]) [S aT1] λa0=>.AD a0 (.rr [tt]) (.op (.Ch 1) [S aUg,S aT8,S aUk,S aT2,S aT3,S aUl,S aTV,S aUj,S aTU,S aTN,S aTI,S aTK,S aUh,S aT5] λa1=>.ca 184 [a1,.func (.func 183) [] [.BR [g a 0,g a 1,g a 2,g a 3,g a 4,g a 5,g a 6,g a 7,g a 8,g a 9,g a 10,g a 11]]] λa2=>.rr [a2]))) (.op (.Ch 1) [S aUg,S aT8,S aUk,S aT2,S aT3,S aUl,S aTV,S aUj,S aTU,S aTN,S aTI,S aTK,S aUh,S aT5] λa5=>.ca 184 [a5,.func (.func 183) [] [.BR [g a 0,g a 1,g a 2,g a 3,g a 4,g a 5,g a 6,g a 7,g a 8,g a 9,g a 10,g a 11]]] λa7=>.rr [a7])) λu=>.rr [g u 0]))))))
def qm:FC cx 74 t74:=λ_=>AA
def t75(p q:Aa):IT:=
 .cells 12 p λa=>.ie [g a 0,I 3] λb=>.AD b (.Bn 185 [g a 1,q] λc=>.nt [c] λd=>.rr [d]) (.rr [ff])
def qn:EB cx 75 t75:=λ_ _=>AA
def t76(p q:Aa):IT:=
 .cells 12 p λa=>.ie [g a 0,I 2] λb=>.AD b (.Bn 185 [g a 1,q] λc=>.rr [c]) (.rr [ff])
def qo:EB cx 76 t76:=λ_ _=>AA
def t77(p:Aa):IT:=
 .op (.B6 [I 0,S [],ff,S [],ff,S [],ff,ff,.slnil,ff,S [],.int .i32 0] [(0,1),(1,1)]) [I 2,p] λa=>.cells 12 a λb=>.rr [EY b]
def qp:FC cx 77 t77:=λ_=>AA
def t78(p q:Aa):IT:=
 .cells 12 q λa=>.ca 42 [p,EY a] λ_=>.fa p 2 λ_ b=>.ca 64 [b] λ_=>.rr [.tuple []]
def qq:EB cx 78 t78:=λ_ _=>AA
def t79(p q:Aa):IT:=
 .cells 12 p λa=>.ie [g a 0,I 3] λb=>.AD b (.Bn 185 [g a 1,q] λc=>.rr [c]) (.rr [ff])
def qt:EB cx 79 t79:=λ_ _=>AA
def t80(p:Aa):IT:=
 .op (.Ga false .sl) [p,.slnil] λa=>.AD a (.rr [.slnil]) (.op (.Ch 1) [] λb=>.op (.append 1 8) [b,p] λc=>.rr [c])
def o9:FC cx 80 t80:=λ_=>AA
def t81(p q r:Aa):IT:=
 .cells 12 q λa=>.BP p 7 λ_ _ b=>.fa p 2 λ_ c=>.op (.B6 [I 0,I 0,S [],ff] [(0,1),(1,1),(2,1)]) [b,I 1,S aTB] λd=>.ca 145 [c,d] λ_=>.D3 r [p,EY a] λe=>.fa p 2 λ_ f=>.ca 186 [f,b] λ_=>.rr [e]
def qu:QB cx 81 t81:=λ_ _ _=>AA
def t82(p q:Aa):IT:=
 .ca 100084 [p] λ_=>.BP p 6 λ_ _ a=>.op (.Ch 1) [q] λb=>.FH 1 8 a b λc=>.fa p 6 λ_ d=>.store 1 d c (.ca 71 [p,q] λe=>.H7 6 p (.rr [e]))
def aAM:EB cx 82 t82:=λ_ _=>AA
def t83(p:Aa):IT:=
 .fa p 2 λ_ a=>.ca 162 [a,S aTz] λb=>.ih [b,I 0] λc=>.rr [c]
def qv:FC cx 83 t83:=λ_=>AA
def t84(p:Aa):IT:=
 .BP p 6 λ_ _ a=>.ln [a] λb=>.ig [b,I 0] λc=>.AD c (.BP p 6 λ_ _ d=>.ib [b,I 1] λe=>.op (.OM 1 false false true) [d,e] λf=>.ca 80 [f] λh=>.fa p 6 λ_ j=>.store 1 j h (.rr [.tuple []])) (.rr [.tuple []])
def pA:FC cx 84 t84:=λ_=>AA
def t85(p q:Aa):IT:=
 .ln [p] λa=>.ln [q] λb=>.iq [a,b] λc=>.AD c (.rr [ff]) (.loop 4 [ff,I 0] (λd=>.ln [p] λe=>.il [g d 1,e] λf=>.AD f (.ea 1 [p,g d 1] λh=>.ld h λj=>.ea 1 [q,g d 1] λk=>.ld k λm=>.iq [j,m] λn=>.AD n (.rr [ff,g d 1]) (.ia [g d 1,I 1] λo=>.rn [g d 0,o])) (.rx 0 [g d 0,g d 1])) (lx 0 (λs=>.rr [tt]) λs=>.rr [g s 0]))
def aAN:EB cx 85 t85:=λ_ _=>AA
def t86(p q:Aa):IT:=
 .ln [p] λa=>.ln [q] λb=>.iq [a,b] λc=>.AD c (.rr [ff]) (.loop 4 [ff,I 0] (λd=>.ln [p] λe=>.il [g d 1,e] λf=>.AD f (.ea 3 [p,g d 1] λh=>.fl h 0 λ_ j=>.ea 3 [q,g d 1] λk=>.fl k 0 λ_ m=>.iq [j,m] λn=>.AD n (.rr [ff,g d 1]) (.ea 3 [p,g d 1] λo=>.fl o 1 λ_ s=>.ea 3 [q,g d 1] λu=>.fl u 1 λ_ w=>.op (.str .neq) [s,w] λy=>.AD y (.rr [ff,g d 1]) (.ea 3 [p,g d 1] λz=>.fl z 2 λ_ a0=>.ln [a0] λa1=>.ea 3 [q,g d 1] λa2=>.fl a2 2 λ_ a5=>.ln [a5] λa7=>.iq [a1,a7] λa8=>.AD a8 (.rr [ff,g d 1]) (.loop 9 [g d 0,I 0] (λb0=>.ea 3 [p,g d 1] λb1=>.fl b1 2 λ_ b2=>.ln [b2] λb3=>.il [g b0 1,b3] λb4=>.AD b4 (.ea 3 [p,g d 1] λb5=>.fl b5 2 λ_ b6=>.ea 3 [b6,g b0 1] λb7=>.load (some 3) b7 λb8=>.ea 3 [q,g d 1] λb9=>.fl b9 2 λ_ c0=>.ea 3 [c0,g b0 1] λc1=>.load (some 3) c1 λc2=>.op (.geq true [.i,.s,.s]) [b8,c2] λc4=>.AD c4 (.rr [ff,g b0 1]) (.ia [g b0 1,I 1] λc5=>.rn [g b0 0,c5])) (.rx 2 [g b0 0,g b0 1])) (λx c6=>match x with| .normal=>.fail| .exit i=>if i=2 then .ia [g d 1,I 1] λc7=>.rn [g c6 0,c7] else if i=1 then .ia [g d 1,I 1] λc8=>.rn [g c6 0,c8] else .ret (.exit i) [g c6 0,g d 1]| .ret=>.rr [g c6 0,g d 1]))))) (.rx 0 [g d 0,g d 1])) (lx 0 (λc9=>.rr [tt]) λc9=>.rr [g c9 0]))
def aAO:EB cx 86 t86:=λ_ _=>AA
def t87(p:Aa):IT:=
 .op (.Qp true) [p,.ptr none] λa=>.AD a (.BP p 0 λ_ _ b=>.op (.Qp true) [b,.ptr none] λc=>.rr [c]) (.rr [ff])
def qw:FC cx 87 t87:=λ_=>AA
def t88(p:Aa):IT:=
 .op (.Ga false .sl) [p,.slnil] λa=>.AD a (.rr [.slnil]) (.op (.Ch 3) [] λb=>.FX 3 40 b p λc=>.rr [c])
def pB:FC cx 88 t88:=λ_=>AA
def t89(p:Aa):IT:=
 .op (.Qp false) [p,.ptr none] λa=>.AD a (.rr [I 0]) (.BP p 0 λ_ _ b=>.ln [b] λc=>.rr [c])
def aAP:FC cx 89 t89:=λ_=>AA
def t90(p q:Aa):IT:=
 .ln [p] λa=>.ln [q] λb=>.iq [a,b] λc=>.AD c (.rr [ff]) (.ln [p] λd=>.loop 4 [ff,I 0] (λe=>.il [g e 1,d] λf=>.AD f (.ea 1 [p,g e 1] λh=>.ld h λj=>.ea 1 [q,g e 1] λk=>.ld k λm=>.iq [j,m] λn=>.AD n (.rr [ff,g e 1]) (.ia [g e 1,I 1] λo=>.rn [g e 0,o])) (.rx 0 [g e 0,g e 1])) (lx 0 (λs=>.rr [tt]) λs=>.rr [g s 0]))
def aAQ:EB cx 90 t90:=λ_ _=>AA
def t91(p q:Aa):IT:=
 .BP p 0 λ_ _ a=>.BP q 0 λ_ _ b=>.ie [a,b] λc=>.AD c (.BP p 4 λ_ _ d=>.BP q 4 λ_ _ e=>.ie [d,e] λf=>.AD f (.BP p 5 λ_ _ h=>.BP q 5 λ_ _ j=>.se [h,j] λk=>.AD k (.BP p 6 λ_ _ m=>.BP q 6 λ_ _ n=>.ca 187 [m,n] λo=>.AD o (.BP p 7 λ_ _ s=>.BP q 7 λ_ _ u=>.se [s,u] λw=>.AD w (.BP p 8 λ_ _ y=>.BP q 8 λ_ _ z=>.se [y,z] λa0=>.AD a0 (.BP p 9 λ_ _ a1=>.BP q 9 λ_ _ a2=>.se [a1,a2] λa5=>.AD a5 (.BP p 10 λ_ _ a7=>.BP q 10 λ_ _ a8=>.op (.beq false) [a7,a8] λb0=>.rr [b0]) (.rr [ff])) (.rr [ff])) (.rr [ff])) (.rr [ff])) (.rr [ff])) (.rr [ff])) (.rr [ff])
def aAR:EB cx 91 t91:=λ_ _=>AA
def t93(p q:Aa):IT:=
 .ca 87 [p] λa=>.nt [a] λb=>.AD b (.rr [.tuple [I 0,I 0]]) (.ie [q,I 0] λc=>.FZ 100012 (.AD c (.fa p 2 λ_ d=>.ca 131 [d] λe=>.ie [e,I 0] λf=>.AD f (.BP p 1 λ_ _ h=>.rr [q,h,I 0]) (.ca 155 [p] λj=>.op (.part 0 none) [j] λk=>.rn [k,I 0,I 0])) (.rn [q,I 0,I 0])) (nx (λm=>.ca 94 [p,g m 0] λn=>.cells 13 n λo=>.FZ 200009 (.BP p 15 λ_ _ s=>.AD s (.ie [g o 0,I 4] λu=>.AD u (.op (.B6 [I 0,I 0,S [],ff] [(1,1),(2,1)]) [g o 4,g o 5] λw=>.op (.Ch 1) [S aTO,S aUn,S aUm,S aUo,S [116,114]] λy=>.ca 133 [w,y] λz=>.rn [z]) (.rn [ff])) (.rn [ff])) (nx (λa0=>.FZ 100046 (.AD (g a0 0) (.ca 188 [p] λa1=>.op (.ext 0) [a1] λa2=>.op (.ext 1) [a1] λa5=>.rn [a2,a5]) (.rn [g m 0,g m 2])) (nx (λa7=>.ca 94 [p,g a7 0] λa8=>.cells 13 a8 λb0=>.iq [g b0 11,I 0] λb1=>.AD b1 (.rr [.tuple [g b0 11,I 0]]) (.rr [.tuple [g a7 0,g a7 1]])) λa7=>.rr [.tuple [g a7 0,g a7 1]])) λa0=>.rr [.tuple [g m 0,g m 2]])) λm=>.rr [.tuple [g m 1,g m 2]]))
def pC:EB cx 93 t93:=λ_ _=>AA
def t94(p q:Aa):IT:=
 .BP p 0 λ_ _ a=>.ca 147 [a,q] λb=>.op (.ext 0) [b] λc=>.op (.ext 1) [b] λ_=>.cells 13 c λd=>.cells 13 (m_ d) λe=>.rr [m_ e]
def qx:EB cx 94 t94:=λ_ _=>AA
def t95(p q r:Aa):IT:=
 .op (.B6 [I 0,I 0,.slnil,I 0,I 0,S [],.slnil,S [],S [],S [],ff,I 0,I 0] [(0,1),(7,1)]) [I 6,r] λa=>.ca 177 [p,q,a] λb=>.op (.ext 0) [b] λc=>.op (.ext 1) [b] λd=>.rr [.tuple [c,d]]
def qy:QB cx 95 t95:=λ_ _ _=>AA
def t96(p q r u:Aa):IT:=
 .cells 1 p λa=>.ca 94 [g a 0,r] λb=>.op (.part 0 none) [b] λc=>.ie [c,I 1] λd=>.AD d (.ca 94 [g a 0,q] λe=>.op (.part 0 none) [e] λf=>.ie [f,I 4] λh=>.AD h (.BP (g a 0) 0 λ_ _ j=>.ca 190 [j,r] λk=>.ca 189 [k,.func (.func 191) [] [.BR [g a 0]]] λm=>.AD m (.rr [.tuple []]) (.ld (.BR [g a 0]) λn=>.BP n 0 λ_ _ o=>.ca 73 [o,r,q,u] λ_=>.rr [.tuple []])) (.BP (g a 0) 0 λ_ _ s=>.ca 73 [s,r,q,u] λ_=>.rr [.tuple []])) (.BP (g a 0) 0 λ_ _ w=>.ca 73 [w,r,q,u] λ_=>.rr [.tuple []])
def Xm:Tq4 cx 96 t96:=λ_ _ _ _=>AA
def t97(p q r:Aa):IT:=
 .ca 192 [q] λa=>.ln [a] λb=>.loop 1 [I 0] (λc=>.il [g c 0,b] λd=>.AD d (.ea 1 [a,g c 0] λe=>.ld e λf=>.Hw p f r (.ia [g c 0,I 1] λh=>.rn [h])) (.rx 0 [g c 0])) (lx 0 (λj=>.rr [.tuple []]) λj=>.rr [.tuple []])
def qz:QB cx 97 t97:=λ_ _ _=>AA
def t98(p:Aa):IT:=
 .BP p 0 λ_ _ a=>.fa p 1 λ_ b=>.load (some 12) b λc=>.ca 28 [a,c] λd=>.rr [d]
def q_:FC cx 98 t98:=λ_=>AA
def t99(p:Aa):IT:=
 .cells 1 p λa=>.rr [.func (.func 193) [] [.BR [g a 0]]]
def rh:FC cx 99 t99:=λ_=>AA
def aAS(p:Aa):IT:=
 .BP p 0 λ_ _ a=>.ca 57 [a] λ_=>.BP p 0 λ_ _ b=>.fa p 1 λ_ c=>.load (some 12) c λd=>.ca 42 [b,d] λ_=>.rr [.tuple []]
def tM:FC cx 100 aAS:=λ_=>AA
def rj(p:Aa):IT:=
 .BP p 0 λ_ _ a=>.ca 57 [a] λ_=>.BP p 0 λ_ _ b=>.ca 155 [b] λc=>.cells 4 c λd=>.ie [g d 1,I 1] λe=>.AD e (.Bn 194 [g d 2] λf=>.AD f (.BP p 0 λ_ _ h=>.fa h 2 λ_ j=>.ca 64 [j] λ_=>.BP p 0 λ_ _ k=>.fa p 1 λ_ m=>.load (some 12) m λn=>.ca 42 [k,n] λ_=>.rr [.tuple []]) (.BP p 0 λ_ _ o=>.fa p 1 λ_ s=>.load (some 12) s λu=>.ca 42 [o,u] λ_=>.rr [.tuple []])) (.BP p 0 λ_ _ w=>.fa p 1 λ_ y=>.load (some 12) y λz=>.ca 42 [w,z] λ_=>.rr [.tuple []])
def Vq:FC cx 101 rj:=λ_=>AA
def aAT(p:Aa):IT:=
 .ca 100 [p] λ_=>.BP p 0 λ_ _ a=>.fa a 17 λ_ b=>.store 1 b tt (.BP p 0 λ_ _ c=>.fa c 14 λ_ d=>.store 1 d ff (.rr [.tuple []]))
def tN:FC cx 102 aAT:=λ_=>AA
def aAU(p:Aa):IT:=
 .BP p 0 λ_ _ a=>.ca 41 [a] λ_=>.BP p 0 λ_ _ b=>.fa p 1 λ_ c=>.load (some 12) c λd=>.ca 54 [b,d] λ_=>.rr [.tuple []]
def tO:FC cx 103 aAU:=λ_=>AA
end Go.Am
