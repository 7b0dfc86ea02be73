/- Lemmas -/
import Derived.Test.YtdejbjapknkdnaaGreatDoorV9
import Derived.Test.YtdejbjapknkdnaaGreatDoorV17
set_option linter.all false
namespace Go.Am
open Go
def t50(p q:Aa):IT:=
 .cells 12 q λa=>.call 34 [p,Gf a] λb=>.nt [b] λc=>.AJ c (.rr [ff]) (.ie [g a 0,I 5] λd=>.AJ d (.call 69 [p,g a 11] λ_=>.rr [ff]) (.ie [g a 0,I 6] λe=>.AJ e (.fa p 2 λ_ f=>.call 73 [f] λ_=>.BZ p 5 λ_ _ h=>.call 61 [p,h] λj=>.rr [j]) (.ie [g a 0,I 3] λk=>.AJ k (.fa p 2 λ_ m=>.call 73 [m] λ_=>.BZ p 5 λ_ _ n=>.fa p 4 λ_ o=>.store 1 o n (.rr [ff])) (.rr [ff]))))
def UM:Ff cx 50 t50:=λ_ _=>by kernel_rfl
def t51(p q:Aa):IT:=
 .cells 12 q λa=>.call 34 [p,Gf a] λb=>.nt [b] λc=>.AJ c (.rr [ff]) (.ie [g a 0,I 5] λd=>.AJ d (.call 49 [p,Gf a] λe=>.rr [e]) (.ie [g a 0,I 4] λf=>.AJ f (.call 49 [p,Gf a] λh=>.rr [h]) (.ie [g a 0,I 1] λj=>.AJ j (.call 49 [p,Gf a] λk=>.rr [k]) (.call 66 [Gf a,S aWR] λm=>.AJ m (.call 46 [p,Gf a] λn=>.rr [n]) (.call 72 [Gf a,S aWU] λo=>.AJ o (.call 46 [p,Gf a] λs=>.rr [s]) (.call 66 [Gf a,S aXm] λu=>.AJ u (.call 83 [p,I 9] λw=>.rr [w]) (.call 66 [Gf a,S aYp] λy=>.AJ y (.call 83 [p,I 12] λz=>.rr [z]) (.call 66 [Gf a,S [116,114]] λa0=>.AJ a0 (.call 83 [p,I 13] λa1=>.rr [a1]) (.call 66 [Gf a,S [116,100,32,116,104]] λa2=>.AJ a2 (.call 83 [p,I 14] λa5=>.rr [a5]) (.ie [g a 0,I 2] λa7=>.AJ a7 (.call 83 [p,I 7] λa8=>.rr [a8]) (.ie [g a 0,I 3] λb0=>.AJ b0 (.rr [ff]) (.call 84 [p] λb1=>.nt [b1] λb2=>.AJ b2 (.call 78 [p] λ_=>.rr [ff]) (.fa p 2 λ_ b3=>.op (.Cl 1) [S aWU] λb4=>.call 85 [b3,b4] λ_=>.fa p 3 λ_ b5=>.call 86 [b5] λ_=>.call 87 [p] λ_=>.call 88 [p] λ_=>.rr [tt])))))))))))))
def JO:Ff cx 51 t51:=λ_ _=>by kernel_rfl
def t52(p q:Aa):IT:=
 .op (.Ud true) [p,.ptr none] λa=>.AJ a (.ih [q,I 1] λb=>.AJ b (.BZ p 0 λ_ _ c=>.ln [c] λd=>.ik [q,d] λe=>.rr [e]) (.rr [ff])) (.rr [ff])
def yj:Ff cx 52 t52:=λ_ _=>by kernel_rfl
def t55(p q:Aa):IT:=
 .op (.Cl 1) [q] λa=>.call 93 [p,a] λb=>.iq [b,I 0] λc=>.AJ c (.op (.CT [I 0,I 0,.slnil,I 0,I 0,S [],.slnil,S [],S [],S [],ff,I 0,I 0] []) [] λd=>.cells 13 d λe=>.rr [.tuple [rF e,b]]) (.call 57 [p,q] λf=>.call 94 [f] λh=>.cells 13 h λj=>.rr [.tuple [rF j,I 0]])
def sK:Ff cx 55 t55:=λ_ _=>by kernel_rfl
def t56(p q:Aa):IT:=
 .cells 13 q λa=>.BZ p 0 λ_ _ b=>.op (.CT [I 0,I 0,.slnil,I 0,I 0,S [],.slnil,S [],S [],S [],ff,I 0,I 0] [(0,13)]) [rF a] λc=>.op (.Cl 13) [c] λd=>.F8 13 168 b d λe=>.fa p 0 λ_ f=>.store 1 f e (.BZ p 0 λ_ _ h=>.ln [h] λj=>.rr [j])
def sL:Ff cx 56 t56:=λ_ _=>by kernel_rfl
def t57(p q:Aa):IT:=
 .BZ p 0 λ_ _ a=>.ib [q,I 1] λb=>.ea 13 [a,b] λc=>.rr [c]
def sM:Ff cx 57 t57:=λ_ _=>by kernel_rfl
def t58(p:Aa):IT:=
 .cells 12 p λa=>.ie [g a 0,I 5] λb=>.AJ b (.AQ 95 [g a 11] λc=>.rr [c]) (.rr [ff])
def yk:FW cx 58 t58:=λ_=>by kernel_rfl
def t59(p q r:Aa):IT:=
 .call 31 [p] λa=>.nt [a] λb=>.AJ b (.rr [.tuple []]) (.ie [r,I 0] λc=>.Gp 100014 (.AJ c (.call 96 [p,I 0] λd=>.op (.ext 0) [d] λe=>.op (.ext 1) [d] λf=>.rn [e,f]) (.rn [r,I 0])) (nx (λh=>.call 97 [p,g h 0] λj=>.cells 13 j λk=>.Gp 200005 (.iq [g k 0,I 1] λm=>.AJ m (.iq [g k 0,I 2] λn=>.AJ n (.iq [g k 0,I 4] λo=>.rn [o]) (.rn [ff])) (.rn [ff])) (nx (λs=>.AJ (g s 0) (.rr [.tuple []]) (.BZ p 0 λ_ _ u=>.call 98 [u,g k 3,q] λw=>.op (.ext 0) [w] λy=>.op (.ext 1) [w] λz=>.ie [z,I 0] λa0=>.Gp 100048 (.AJ a0 (.call 99 [p,y,g h 0,g h 1] λ_=>.rn []) (.rn [])) (nx (λa1=>.rr [.tuple []]) λa1=>.rr [.tuple []]))) λs=>.rr [.tuple []])) λh=>.rr [.tuple []]))
def sN:RL cx 59 t59:=λ_ _ _=>by kernel_rfl
def t60(p q r:Aa):IT:=
 .call 100 [p,q] λa=>.iq [a,I 0] λb=>.AJ b (.rr [a]) (.call 57 [p,q] λc=>.fa c 0 λ_ d=>.op (.FN 10) [d] λe=>.store 1 e r (.rr [I 0]))
def yl:RL cx 60 t60:=λ_ _ _=>by kernel_rfl
def t61(p q:Aa):IT:=
 .fa p 4 λ_ a=>.store 1 a q (.rr [tt])
def sP:Ff cx 61 t61:=λ_ _=>by kernel_rfl
def t62(p q r u w:Aa):IT:=
 .op (.CT [I 0,I 0,.slnil,I 0,I 0,S [],.slnil,S [],S [],S [],ff,I 0,I 0] [(0,1),(5,1),(8,1),(9,1)]) [I 3,r,u,w] λa=>.call 101 [p,q,a] λb=>.op (.ext 0) [b] λc=>.op (.ext 1) [b] λd=>.rr [.tuple [c,d]]
def ym:Tq5 cx 62 t62:=λ_ _ _ _ _=>by kernel_rfl
def ŋ(p q r u:Aa):IT:=
 .op (.Cl 1) [q,r] λa=>.call 93 [p,a] λb=>.iq [b,I 0] λc=>.AJ c (.rr [b]) (.Gp 200004 (.iq [u,I 0] λd=>.AJ d (.call 52 [p,u] λe=>.nt [e] λf=>.rn [f]) (.rn [ff])) (nx (λh=>.AJ (g h 0) (.rr [I 3]) (.call 57 [p,q] λj=>.call 57 [p,r] λk=>.Gp 200007 (.fa j 0 λ_ m=>.fl m 0 λ_ n=>.iq [n,I 1] λo=>.AJ o (.fa j 0 λ_ s=>.fl s 0 λ_ w=>.iq [w,I 2] λy=>.AJ y (.fa j 0 λ_ z=>.fl z 0 λ_ a0=>.iq [a0,I 4] λa1=>.rn [a1]) (.rn [ff])) (.rn [ff])) (λx a2=>match x with| .normal=>.AJ (g a2 0) (.rr [I 4]) (.fa k 0 λ_ a5=>.fl a5 0 λ_ a7=>.ie [a7,I 1] λa8=>.AJ a8 (.rr [I 4]) (.fa k 0 λ_ b0=>.fl b0 0 λ_ b1=>.ie [b1,I 2] λb2=>.AJ b2 (.rr [I 4]) (.call 102 [p,r,q] λb3=>.AJ b3 (.rr [I 4]) (.Gp 200012 (.iq [u,I 0] λb4=>.AJ b4 (.ie [u,r] λb5=>.AJ b5 (.rn [tt]) (.call 57 [p,u] λb6=>.fa b6 0 λ_ b7=>.fl b7 1 λ_ b8=>.iq [b8,q] λb9=>.rn [b9])) (.rn [ff])) (λx c0=>match x with| .normal=>.AJ (g c0 0) (.rr [I 5]) (.call 103 [p,r] λ_=>.fa j 0 λ_ c1=>.fl c1 2 λ_ c2=>.ln [c2] λc3=>.iq [u,I 0] λc4=>.Gp 100103 (.AJ c4 (.fa j 0 λ_ c5=>.fl c5 2 λ_ c7=>.call 104 [c7,u] λc8=>.rn [c8]) (.rn [c3])) (nx (λc9=>.fa j 0 λ_ d0=>.fl d0 2 λ_ d1=>.op (.Cl 1) [r] λd2=>.mem .ir [d1,g c9 0,d2] λd3=>.fa j 0 λ_ d4=>.op (.FN 2) [d4] λd5=>.store 1 d5 d3 (.fa k 0 λ_ d6=>.op (.FN 1) [d6] λd7=>.store 1 d7 q (.rr [I 0]))) λc9=>.rr [I 0]))| .exit i=>if i=0 then .call 103 [p,r] λ_=>.fa j 0 λ_ d8=>.fl d8 2 λ_ d9=>.ln [d9] λe0=>.iq [u,I 0] λe1=>.Gp 100103 (.AJ e1 (.fa j 0 λ_ e2=>.fl e2 2 λ_ e3=>.call 104 [e3,u] λe4=>.rn [e4]) (.rn [e0])) (nx (λe5=>.fa j 0 λ_ e6=>.fl e6 2 λ_ e7=>.op (.Cl 1) [r] λe8=>.mem .ir [e7,g e5 0,e8] λe9=>.fa j 0 λ_ f0=>.op (.FN 2) [f0] λf1=>.store 1 f1 e9 (.fa k 0 λ_ f2=>.op (.FN 1) [f2] λf3=>.store 1 f3 q (.rr [I 0]))) λe5=>.rr [I 0]) else .fail| .ret=>.rr [I 0])))))| .exit i=>if i=0 then .call 103 [p,r] λ_=>.fa j 0 λ_ f4=>.fl f4 2 λ_ f5=>.ln [f5] λf6=>.iq [u,I 0] λf7=>.Gp 100103 (.AJ f7 (.fa j 0 λ_ f8=>.fl f8 2 λ_ f9=>.call 104 [f9,u] λh0=>.rn [h0]) (.rn [f6])) (nx (λh1=>.fa j 0 λ_ h2=>.fl h2 2 λ_ h3=>.op (.Cl 1) [r] λh4=>.mem .ir [h3,g h1 0,h4] λh5=>.fa j 0 λ_ h6=>.op (.FN 2) [h6] λh7=>.store 1 h7 h5 (.fa k 0 λ_ h8=>.op (.FN 1) [h8] λh9=>.store 1 h9 q (.rr [I 0]))) λh1=>.rr [I 0]) else .fail| .ret=>.rr [I 0]))) λh=>.rr [I 0]))
def Qs:Tq4 cx 63 ŋ:=λ_ _ _ _=>by kernel_rfl
def t64(p:Aa):IT:=
 .cells 12 p λa=>.iq [g a 0,I 1] λb=>.AJ b (.rr [ff]) (.AJ (g a 7) (.rr [tt]) (.nt [g a 2] λc=>.AJ c (.rr [tt]) (.op (.str .neq) [g a 1,S aWS] λd=>.AJ d (.rr [tt]) (.nt [g a 4] λe=>.AJ e (.rr [ff]) (.op (.Cl 1) [S aXt,S aXw,S [72,84,77,76]] λf=>.ln [f] λh=>.loop 8 [ff,I 0] (λj=>.il [g j 1,h] λk=>.AJ k (.ea 1 [f,g j 1] λm=>.ld m λn=>.AQ 106 [g a 3,n] λo=>.AJ o (.rr [tt,g j 1]) (.ia [g j 1,I 1] λs=>.rn [g j 0,s])) (.rx 0 [g j 0,g j 1])) (lx 0 (λu=>.fl (.B4 [g a 0,g a 1,g a 2,g a 3,g a 4,g a 5,g a 6,g a 7,g a 8,g a 9,g a 10,g a 11]) 6 λ_ w=>.nt [w] λy=>.AJ y (.El (.func (.func 107) [] [.B4 [g a 0,g a 1,g a 2,g a 3,g a 4,g a 5,g a 6,g a 7,g a 8,g a 9,g a 10,g a 11]]) [S aXA] λz=>.AJ z (.rr [tt]) (.El (.func (.func 107) [] [.B4 [g a 0,g a 1,g a 2,g a 3,g a 4,g a 5,g a 6,g a 7,g a 8,g a 9,g a 10,g a 11]]) [S aXo] λa0=>.AJ a0 (.rr [tt]) (.op (.Cl 1) [S aXF,S aXx,S aXN,S aXp,S aXq,S aXO,S aXh,S aXJ,S aXf,S aW9,S aW2,S aW6,S aXG,S aXs] λa1=>.call 108 [a1,.func (.func 107) [] [.B4 [g a 0,g a 1,g a 2,g a 3,g a 4,g a 5,g a 6,g a 7,g a 8,g a 9,g a 10,g a 11]]] λa2=>.rr [a2]))) (.op (.Cl 1) [S aXF,S aXx,S aXN,S aXp,S aXq,S aXO,S aXh,S aXJ,S aXf,S aW9,S aW2,S aW6,S aXG,S aXs] λa5=>.call 108 [a5,.func (.func 107) [] [.B4 [g a 0,g a 1,g a 2,g a 3,g a 4,g a 5,g a 6,g a 7,g a 8,g a 9,g a 10,g a 11]]] λa7=>.rr [a7])) λu=>.rr [g u 0]))))))
def yn:FW cx 64 t64:=λ_=>by kernel_rfl
def t65(p q:Aa):IT:=
 .cells 12 p λa=>.ie [g a 0,I 3] λb=>.AJ b (.AQ 109 [g a 1,q] λc=>.nt [c] λd=>.rr [d]) (.rr [ff])
def yo:Ff cx 65 t65:=λ_ _=>by kernel_rfl
def t66(p q:Aa):IT:=
 .cells 12 p λa=>.ie [g a 0,I 2] λb=>.AJ b (.AQ 109 [g a 1,q] λc=>.rr [c]) (.rr [ff])
def yp:Ff cx 66 t66:=λ_ _=>by kernel_rfl
def t67(p q:Aa):IT:=
 .cells 12 q λa=>.call 110 [p,Gf a,I 1] λb=>.rr [b]
def yq:Ff cx 67 t67:=λ_ _=>by kernel_rfl
def t68(p:Aa):IT:=
 .op (.CT [I 0,S [],ff,S [],ff,S [],ff,ff,.slnil,ff,S [],.int .i32 0] [(0,1),(1,1)]) [I 2,p] λa=>.cells 12 a λb=>.rr [Gf b]
def yr:FW cx 68 t68:=λ_=>by kernel_rfl
def t69(p q:Aa):IT:=
 .call 31 [p] λa=>.nt [a] λb=>.AJ b (.rr [.tuple []]) (.call 96 [p,I 0] λc=>.op (.ext 0) [c] λd=>.op (.ext 1) [c] λe=>.call 97 [p,d] λf=>.cells 13 f λh=>.Gp 200003 (.iq [g h 0,I 4] λj=>.AJ j (.iq [g h 0,I 2] λk=>.rn [k]) (.rn [ff])) (nx (λm=>.AJ (g m 0) (.rr [.tuple []]) (.ln [g h 2] λn=>.iq [e,I 0] λo=>.Gp 100035 (.AJ o (.call 104 [g h 2,e] λs=>.rn [s]) (.rn [n])) (nx (λu=>.call 111 [.slnil,q] λw=>.VR w λy=>.op .Zo [y] λz=>.ig [g u 0,I 0] λa0=>.Gp 100044 (.AJ a0 (.ib [g u 0,I 1] λa1=>.ea 1 [g h 2,a1] λa2=>.ld a2 λa5=>.call 97 [p,a5] λa7=>.cells 13 a7 λa8=>.ie [g a8 0,I 5] λb0=>.AJ b0 (.BZ p 0 λ_ _ b1=>.ib [g u 0,I 1] λb2=>.ea 1 [g h 2,b2] λb3=>.ld b3 λb4=>.op (.str .add) [g a8 7,z] λb5=>.call 112 [b1,b4,b5] λ_=>.rr []) (.rn [])) (.rn [])) (nx (λb6=>.BZ p 0 λ_ _ b7=>.call 113 [b7,g h 3,z] λb8=>.op (.ext 0) [b8] λb9=>.op (.ext 1) [b8] λc0=>.ie [c0,I 0] λc1=>.Gp 100083 (.AJ c1 (.call 99 [p,b9,d,e] λ_=>.rn []) (.rn [])) (nx (λc2=>.rr [.tuple []]) λc2=>.rr [.tuple []])) λb6=>.rr [.tuple []])) λu=>.rr [.tuple []]))) λm=>.rr [.tuple []]))
def Yt:Ff cx 69 t69:=λ_ _=>by kernel_rfl
def t70(p q:Aa):IT:=
 .cells 12 q λa=>.call 67 [p,Gf a] λ_=>.fa p 2 λ_ b=>.call 73 [b] λ_=>.rr [.tuple []]
def yt:Ff cx 70 t70:=λ_ _=>by kernel_rfl
def t71(p q r:Aa):IT:=
 .cells 12 q λa=>.call 31 [p] λb=>.AJ b (.call 67 [p,Gf a] λ_=>.BZ p 4 λ_ _ c=>.fa p 18 λ_ d=>.store 1 d r (.fa p 5 λ_ e=>.store 1 e c (.fa p 4 λ_ f=>.store 1 f (I 8) (.rr [.tuple []])))) (.rr [.tuple []])
def yu:RL cx 71 t71:=λ_ _ _=>by kernel_rfl
def t72(p q:Aa):IT:=
 .cells 12 p λa=>.ie [g a 0,I 3] λb=>.AJ b (.AQ 109 [g a 1,q] λc=>.rr [c]) (.rr [ff])
def yv:Ff cx 72 t72:=λ_ _=>by kernel_rfl
def t73(p:Aa):IT:=
 .call 10 [p] λa=>.il [a,I 2] λb=>.AJ b (.op (.CT [I 0,I 0,S [],ff] []) [] λc=>.cells 4 c λd=>.rr [a4 d]) (.call 114 [p] λe=>.cells 4 e λf=>.BZ p 0 λ_ _ h=>.BZ p 0 λ_ _ j=>.ln [j] λk=>.ib [k,I 1] λm=>.op (.PQ 4 false false true) [h,m] λn=>.fa p 0 λ_ o=>.store 1 o n (.cells 4 (a4 f) λs=>.rr [a4 s]))
def fH:FW cx 73 t73:=λ_=>by kernel_rfl
def t74(p:Aa):IT:=
 .op (.Ud true) [p,.ptr none] λa=>.AJ a (.BZ p 0 λ_ _ b=>.op (.CT [I 0,S [],.slnil] []) [] λc=>.BZ p 0 λ_ _ d=>.ln [d] λe=>.call 115 [b,c,e] λf=>.fa p 0 λ_ h=>.store 1 h f (.rr [.tuple []])) (.rr [.tuple []])
def yw:FW cx 74 t74:=λ_=>by kernel_rfl
def t75(p:Aa):IT:=
 .call 31 [p] λa=>.nt [a] λb=>.AJ b (.rr [.tuple []]) (.fa p 2 λ_ c=>.call 116 [c,S aWU] λd=>.il [d,I 0] λe=>.AJ e (.rr [.tuple []]) (.fa p 2 λ_ f=>.call 117 [f] λ_=>.fa p 2 λ_ h=>.op (.Cl 1) [S aWU] λj=>.call 85 [h,j] λ_=>.fa p 3 λ_ k=>.call 86 [k] λ_=>.BZ p 6 λ_ _ m=>.ln [m] λn=>.ig [n,I 0] λo=>.AJ o (.BZ p 6 λ_ _ s=>.ib [n,I 1] λu=>.op (.PQ 1 false false true) [s,u] λw=>.call 32 [w] λy=>.fa p 6 λ_ z=>.store 1 z y (.call 88 [p] λ_=>.rr [.tuple []])) (.call 88 [p] λ_=>.rr [.tuple []])))
def fI:FW cx 75 t75:=λ_=>by kernel_rfl
def t76(p q r:Aa):IT:=
 .cells 12 q λa=>.BZ p 7 λ_ _ b=>.fa p 2 λ_ c=>.op (.CT [I 0,I 0,S [],ff] [(0,1),(1,1),(2,1)]) [b,I 1,S aWW] λd=>.call 118 [c,d] λ_=>.El r [p,Gf a] λe=>.fa p 2 λ_ f=>.call 119 [f,b] λ_=>.rr [e]
def yx:RL cx 76 t76:=λ_ _ _=>by kernel_rfl
def t77(p:Aa):IT:=
 .fa p 1 λ_ a=>.fl a 11 λ_ b=>.ie [b,.int .i32 0] λc=>.AJ c (.rr [.tuple []]) (.BZ p 0 λ_ _ d=>.call 80 [d] λ_=>.BZ p 0 λ_ _ e=>.fa p 1 λ_ f=>.fl f 11 λ_ h=>.call 69 [e,h] λ_=>.fa p 1 λ_ j=>.load (some 12) j λk=>.call 58 [k] λm=>.nt [m] λn=>.AJ n (.BZ p 0 λ_ _ o=>.fa o 14 λ_ s=>.store 1 s ff (.rr [.tuple []])) (.rr [.tuple []]))
def fJ:FW cx 77 t77:=λ_=>by kernel_rfl
def t78(p:Aa):IT:=
 .call 31 [p] λa=>.AJ a (.fa p 19 λ_ b=>.store 1 b tt (.rr [.tuple []])) (.rr [.tuple []])
def yy:FW cx 78 t78:=λ_=>by kernel_rfl
def t79:IT:=
 .NY λa=>.call 120 [a,S aWR,.func (.func 121) [] []] λ_=>.call 122 [.func (.func 123) [] []] λb=>.call 120 [a,S aWT,b] λ_=>.call 122 [.func (.func 124) [] []] λc=>.call 120 [a,S aW7,c] λ_=>.call 122 [.func (.func 125) [] []] λd=>.call 120 [a,S aYm,d] λ_=>.call 122 [.func (.func 126) [] []] λe=>.call 120 [a,S aW8,e] λ_=>.call 122 [.func (.func 127) [] []] λf=>.call 120 [a,S aXc,f] λ_=>.call 122 [.func (.func 128) [] []] λh=>.call 120 [a,S aWY,h] λ_=>.call 120 [a,S aWZ,.func (.func 129) [] []] λ_=>.call 122 [.func (.func 130) [] []] λj=>.call 120 [a,S aXi,j] λ_=>.call 122 [.func (.func 131) [] []] λk=>.call 120 [a,S aYn,k] λ_=>.call 122 [.func (.func 132) [] []] λm=>.call 120 [a,S aYM,m] λ_=>.call 122 [.func (.func 133) [] []] λn=>.call 120 [a,S aYN,n] λ_=>.call 122 [.func (.func 134) [] []] λo=>.call 120 [a,S aXe,o] λ_=>.call 122 [.func (.func 135) [] []] λs=>.call 120 [a,S aYF,s] λ_=>.call 122 [.func (.func 136) [] []] λu=>.call 122 [.func (.func 137) [] []] λw=>.call 122 [.func (.func 138) [] []] λy=>.mem (.WW .nilFunc) [a,S aW0] λz=>.op (.ext 1) [z] λa0=>.mem .KO [a,a0,u] λ_=>.H6 a (S aXn) w (.H6 a (S aWV) y (.call 122 [.func (.func 139) [] []] λa1=>.call 122 [.func (.func 140) [] []] λa2=>.call 122 [.func (.func 141) [] []] λa5=>.call 122 [.func (.func 142) [] []] λa7=>.mem (.WW .nilFunc) [a,S [97]] λa8=>.op (.ext 1) [a8] λb0=>.mem .KO [a,b0,a1] λ_=>.H6 a (S aXk) a2 (.H6 a (S aXa) a5 (.H6 a (S aXz) a7 (.rr [a])))))
def yz:B7 cx 79 []=t79:=by kernel_rfl
def t80(p:Aa):IT:=
 .call 31 [p] λa=>.nt [a] λb=>.AJ b (.IC 3 p (.rr [.tuple []])) (.fa p 3 λ_ c=>.fl c 0 λ_ d=>.ln [d] λe=>.loop 2 [e] (λf=>.ig [g f 0,I 0] λh=>.AJ h (.fa p 3 λ_ j=>.fl j 0 λ_ k=>.ib [g f 0,I 1] λm=>.ea 3 [k,m] λn=>.fl n 0 λ_ o=>.iq [o,I 0] λs=>.AJ s (.fa p 2 λ_ u=>.fa p 3 λ_ w=>.fl w 0 λ_ y=>.ib [g f 0,I 1] λz=>.ea 3 [y,z] λa0=>.fl a0 0 λ_ a1=>.call 143 [u,a1] λa2=>.il [a2,I 0] λa5=>.AJ a5 (.ib [g f 0,I 1] λa7=>.rn [a7]) (.rx 0 [g f 0])) (.rx 0 [g f 0])) (.rx 0 [g f 0])) (lx 0 (λa8=>.fa p 3 λ_ b0=>.fl b0 0 λ_ b1=>.call 144 [b1] λb2=>.fa p 3 λ_ b3=>.op (.FN 0) [b3] λb4=>.store 1 b4 b2 (.loop 5 [g a8 0] (λb5=>.fa p 3 λ_ b6=>.fl b6 0 λ_ b7=>.ln [b7] λb8=>.il [g b5 0,b8] λb9=>.AJ b9 (.fa p 3 λ_ c0=>.fl c0 0 λc1 c2=>.fa p 3 λ_ c3=>.fl c3 0 λ_ c4=>.ea 3 [c4,g b5 0] λc5=>.load (some 3) c5 λc6=>.call 145 [c6] λc8=>.ld c1 λc9=>.same c2 c9 (.call 67 [p,c8] λd0=>.ld c1 λd1=>.same c2 d1 (.ea 3 [c2,g b5 0] λd2=>.op (.FN 0) [d2] λd3=>.store 1 d3 d0 (.ia [g b5 0,I 1] λd4=>.rn [d4])))) (.rx 2 [g b5 0])) (lx 2 (λd5=>.IC 3 p (.rr [.tuple []])) λd5=>.IC 3 p (.rr [.tuple []])))) λa8=>.IC 3 p (.rr [.tuple []])))
def y_:FW cx 80 t80:=λ_=>by kernel_rfl
def t81:IT:=
 .NY λa=>.H6 a (S aWU) (.func (.func 121) [] []) (.H6 a (S aWX) (.func (.func 146) [] []) (.H6 a (S aWS) (.func (.func 146) [] []) (.call 122 [.func (.func 147) [] []] λb=>.call 120 [a,S aWQ,b] λ_=>.call 122 [.func (.func 148) [] []] λc=>.call 120 [a,S aW1,c] λ_=>.call 122 [.func (.func 150) [] []] λd=>.call 120 [a,S aW7,d] λ_=>.call 122 [.func (.func 151) [] []] λe=>.call 120 [a,S aXc,e] λ_=>.call 122 [.func (.func 152) [] []] λf=>.call 120 [a,S aYy,f] λ_=>.call 122 [.func (.func 153) [] []] λh=>.H6 a (S aXn) h (.call 122 [.func (.func 154) [] []] λj=>.H6 a (S [98,114]) j (.rr [a])))))
def za:B7 cx 81 []=t81:=by kernel_rfl
def t82(p q:Aa):IT:=
 .call 31 [p] λa=>.nt [a] λb=>.AJ b (.rr [.tuple []]) (.fa p 2 λ_ c=>.call 10 [c] λd=>.ib [d,I 1] λe=>.loop 2 [e] (λf=>.ih [g f 0,I 0] λh=>.AJ h (.fa p 2 λ_ j=>.call 12 [j,g f 0] λk=>.cells 4 k λm=>.op (.Cl 1) [q] λn=>.call 155 [a4 m,n] λo=>.AJ o (.fa p 2 λ_ s=>.call 156 [s,q] λ_=>.fa p 2 λ_ u=>.call 157 [u,g m 0] λ_=>.rr [g f 0]) (.AQ 158 [g m 1,g m 2] λw=>.AJ w (.rr [g f 0]) (.ib [g f 0,I 1] λy=>.rn [y]))) (.rx 0 [g f 0])) (lx 0 (λz=>.rr [.tuple []]) λz=>.rr [.tuple []]))
def zb:Ff cx 82 t82:=λ_ _=>by kernel_rfl
def t83(p q:Aa):IT:=
 .call 100087 [p] λ_=>.BZ p 6 λ_ _ a=>.op (.Cl 1) [q] λb=>.F8 1 8 a b λc=>.fa p 6 λ_ d=>.store 1 d c (.call 61 [p,q] λe=>.IC 6 p (.rr [e]))
def zc:Ff cx 83 t83:=λ_ _=>by kernel_rfl
def t84(p:Aa):IT:=
 .fa p 2 λ_ a=>.call 116 [a,S aWU] λb=>.ih [b,I 0] λc=>.rr [c]
def zd:FW cx 84 t84:=λ_=>by kernel_rfl
def t85(p q:Aa):IT:=
 .cells 1 q λa=>.call 159 [p,.func (.func 160) [] [],.func (.func 161) [] [.B4 [g a 0]]] λb=>.rr [b]
def ze:Ff cx 85 t85:=λ_ _=>by kernel_rfl
def t86(p:Aa):IT:=
 .op (.Ud false) [p,.ptr none] λa=>.AJ a (.rr [I 0]) (.BZ p 0 λ_ _ b=>.ln [b] λc=>.BZ p 0 λ_ d e=>.call 163 [p] λf=>.ld d λh=>.same e h (.ib [f,I 1] λj=>.op (.L0 true) [j,I 0] λk=>.op (.PQ 3 false false true) [e,k] λm=>.fa p 0 λ_ n=>.store 1 n m (.BZ p 0 λ_ _ o=>.ln [o] λs=>.ib [c,s] λu=>.rr [u])))
def zf:FW cx 86 t86:=λ_=>by kernel_rfl
def t87(p:Aa):IT:=
 .BZ p 6 λ_ _ a=>.ln [a] λb=>.ig [b,I 0] λc=>.AJ c (.BZ p 6 λ_ _ d=>.ib [b,I 1] λe=>.op (.PQ 1 false false true) [d,e] λf=>.call 32 [f] λh=>.fa p 6 λ_ j=>.store 1 j h (.rr [.tuple []])) (.rr [.tuple []])
def sQ:FW cx 87 t87:=λ_=>by kernel_rfl
def t88(p:Aa):IT:=
 .call 31 [p] λa=>.nt [a] λb=>.AJ b (.rr [.tuple []]) (.fa p 4 λ_ c=>.store 1 c (I 7) (.fa p 2 λ_ d=>.call 10 [d] λe=>.ib [e,I 1] λf=>.loop 3 [f] (λh=>.ih [g h 0,I 0] λj=>.AJ j (.fa p 2 λ_ k=>.call 12 [k,g h 0] λm=>.cells 4 m λn=>.ie [g h 0,I 0] λo=>.AJ o (.BZ p 9 λ_ _ s=>.AJ s (.fa p 10 λ_ u=>.load (some 4) u λw=>.cells 4 w λy=>.call 164 [p,a4 y,g h 0] λz=>.op (.ext 0) [z] λa0=>.op (.ext 1) [z] λa1=>.AJ a1 (.fa p 4 λ_ a2=>.store 1 a2 a0 (.rr [g h 0])) (.ib [g h 0,I 1] λa5=>.rn [a5])) (.call 164 [p,a4 n,g h 0] λa7=>.op (.ext 0) [a7] λa8=>.op (.ext 1) [a7] λb0=>.AJ b0 (.fa p 4 λ_ b1=>.store 1 b1 a8 (.rr [g h 0])) (.ib [g h 0,I 1] λb2=>.rn [b2]))) (.call 164 [p,a4 n,g h 0] λb3=>.op (.ext 0) [b3] λb4=>.op (.ext 1) [b3] λb5=>.AJ b5 (.fa p 4 λ_ b6=>.store 1 b6 b4 (.rr [g h 0])) (.ib [g h 0,I 1] λb7=>.rn [b7]))) (.rx 0 [g h 0])) (lx 0 (λb8=>.rr [.tuple []]) λb8=>.rr [.tuple []])))
def zg:FW cx 88 t88:=λ_=>by kernel_rfl
def t93(p q:Aa):IT:=
 .op (.Ud false) [p,.ptr none] λa=>.AJ a (.rr [I 1]) (.ln [q] λb=>.loop 4 [I 0,I 0] (λc=>.il [g c 1,b] λd=>.AJ d (.ea 1 [q,g c 1] λe=>.ld e λf=>.call 52 [p,f] λh=>.nt [h] λj=>.AJ j (.rr [I 3,g c 1]) (.ia [g c 1,I 1] λk=>.rn [g c 0,k])) (.rx 0 [g c 0,g c 1])) (lx 0 (λm=>.rr [I 0]) λm=>.rr [g m 0]))
def zh:Ff cx 93 t93:=λ_ _=>by kernel_rfl
def t94(p:Aa):IT:=
 .fa p 0 λ_ a=>.load (some 13) a λb=>.cells 13 b λc=>.fa p 0 λ_ d=>.fl d 2 λ_ e=>.fa p 0 λ_ f=>.fl f 6 λh j=>.call 172 [e] λk=>.ld h λm=>.same j m (.call 100033 [j] λn=>.cells 1 k λo=>.cells 1 n λs=>.cells 13 (.agg [g c 0,g c 1,g o 0,g c 3,g c 4,g c 5,g s 0,g c 7,g c 8,g c 9,g c 10,g c 11,g c 12]) λu=>.rr [rF u])
def zi:FW cx 94 t94:=λ_=>by kernel_rfl
def t95(p:Aa):IT:=
 .call 174 [.int .i32 9,.int .i32 10] λa=>.call 174 [.int .i32 12,.int .i32 13] λb=>.call 174 [.int .i32 32,.int .i32 32] λc=>.op (.Cl 1) [a,b,c] λd=>.call 173 [d] λe=>.El e [p] λf=>.rr [f]
def sR:FW cx 95 t95:=λ_=>by kernel_rfl
def t96(p q:Aa):IT:=
 .call 31 [p] λa=>.nt [a] λb=>.AJ b (.rr [.tuple [I 0,I 0]]) (.ie [q,I 0] λc=>.Gp 100012 (.AJ c (.fa p 2 λ_ d=>.call 10 [d] λe=>.ie [e,I 0] λf=>.AJ f (.BZ p 1 λ_ _ h=>.rr [q,h,I 0]) (.call 175 [p] λj=>.op (.part 0 none) [j] λk=>.rn [k,I 0,I 0])) (.rn [q,I 0,I 0])) (nx (λm=>.call 97 [p,g m 0] λn=>.cells 13 n λo=>.Gp 200009 (.BZ p 15 λ_ _ s=>.AJ s (.ie [g o 0,I 4] λu=>.AJ u (.op (.CT [I 0,I 0,S [],ff] [(1,1),(2,1)]) [g o 4,g o 5] λw=>.op (.Cl 1) [S aXa,S aXK,S aXH,S aXL,S [116,114]] λy=>.call 155 [w,y] λz=>.rn [z]) (.rn [ff])) (.rn [ff])) (nx (λa0=>.Gp 100046 (.AJ (g a0 0) (.call 176 [p] λa1=>.op (.ext 0) [a1] λa2=>.op (.ext 1) [a1] λa5=>.rn [a2,a5]) (.rn [g m 0,g m 2])) (nx (λa7=>.call 97 [p,g a7 0] λa8=>.cells 13 a8 λb0=>.iq [g b0 11,I 0] λb1=>.AJ b1 (.rr [.tuple [g b0 11,I 0]]) (.rr [.tuple [g a7 0,g a7 1]])) λa7=>.rr [.tuple [g a7 0,g a7 1]])) λa0=>.rr [.tuple [g m 0,g m 2]])) λm=>.rr [.tuple [g m 1,g m 2]]))
def sS:Ff cx 96 t96:=λ_ _=>by kernel_rfl
def t97(p q:Aa):IT:=
 .BZ p 0 λ_ _ a=>.call 55 [a,q] λb=>.op (.ext 0) [b] λc=>.op (.ext 1) [b] λ_=>.cells 13 c λd=>.cells 13 (rF d) λe=>.rr [rF e]
def zj:Ff cx 97 t97:=λ_ _=>by kernel_rfl
def t98(p q r:Aa):IT:=
 .op (.CT [I 0,I 0,.slnil,I 0,I 0,S [],.slnil,S [],S [],S [],ff,I 0,I 0] [(0,1),(7,1)]) [I 6,r] λa=>.call 101 [p,q,a] λb=>.op (.ext 0) [b] λc=>.op (.ext 1) [b] λd=>.rr [.tuple [c,d]]
def zk:RL cx 98 t98:=λ_ _ _=>by kernel_rfl
def t99(p q r u:Aa):IT:=
 .cells 1 p λa=>.call 97 [g a 0,r] λb=>.op (.part 0 none) [b] λc=>.ie [c,I 1] λd=>.AJ d (.call 97 [g a 0,q] λe=>.op (.part 0 none) [e] λf=>.ie [f,I 4] λh=>.AJ h (.BZ (g a 0) 0 λ_ _ j=>.call 178 [j,r] λk=>.call 177 [k,.func (.func 179) [] [.B4 [g a 0]]] λm=>.AJ m (.rr [.tuple []]) (.ld (.B4 [g a 0]) λn=>.BZ n 0 λ_ _ o=>.call 63 [o,r,q,u] λ_=>.rr [.tuple []])) (.BZ (g a 0) 0 λ_ _ s=>.call 63 [s,r,q,u] λ_=>.rr [.tuple []])) (.BZ (g a 0) 0 λ_ _ w=>.call 63 [w,r,q,u] λ_=>.rr [.tuple []])
def Yu:Tq4 cx 99 t99:=λ_ _ _ _=>by kernel_rfl
def aDu(p q:Aa):IT:=
 .op (.Cl 1) [q] λa=>.call 93 [p,a] λb=>.iq [b,I 0] λc=>.AJ c (.rr [b]) (.call 57 [p,q] λd=>.fa d 0 λ_ e=>.fl e 0 λ_ f=>.iq [f,I 1] λh=>.AJ h (.rr [I 9]) (.rr [I 0]))
def xE:Ff cx 100 aDu:=λ_ _=>by kernel_rfl
def Ō(p q r:Aa):IT:=
 .cells 13 r λa=>.call 100 [p,q] λb=>.iq [b,I 0] λc=>.AJ c (.rr [.tuple [I 0,b]]) (.cells 1 q λd=>.call 56 [p,.agg [g a 0,g a 1,g a 2,g d 0,g a 4,g a 5,g a 6,g a 7,g a 8,g a 9,g a 10,g a 11,g a 12]] λe=>.rr [.tuple [e,I 0]])
def fK:RL cx 101 Ō:=λ_ _ _=>by kernel_rfl
def ō(p q:Aa):IT:=
 .call 57 [p,q] λa=>.fa a 0 λ_ b=>.fl b 1 λ_ c=>.ie [c,I 0] λd=>.AJ d (.rr [.tuple []]) (.fa a 0 λ_ e=>.fl e 1 λ_ f=>.call 57 [p,f] λh=>.fa h 0 λ_ j=>.fl j 2 λ_ k=>.call 104 [k,q] λm=>.fa h 0 λ_ n=>.fl n 2 λ_ o=>.ia [m,I 1] λs=>.call 181 [o,m,s] λu=>.fa h 0 λ_ w=>.op (.FN 2) [w] λy=>.store 1 y u (.fa a 0 λ_ z=>.op (.FN 1) [z] λa0=>.store 1 a0 i0 (.rr [.tuple []])))
def fL:Ff cx 103 ō:=λ_ _=>by kernel_rfl
def aDv(p q:Aa):IT:=
 .ln [p] λa=>.loop 2 [I 0,I 0] (λb=>.il [g b 1,a] λc=>.AJ c (.ea 1 [p,g b 1] λd=>.ld d λe=>.ie [q,e] λf=>.AJ f (.rr [g b 1,g b 1]) (.ia [g b 1,I 1] λh=>.rn [g b 0,h])) (.rx 0 [g b 0,g b 1])) (lx 0 (λj=>.rr [I (-1)]) λj=>.rr [g j 0])
def xF:Ff cx 104 aDv:=λ_ _=>by kernel_rfl
def aDw(p q:Aa):IT:=
 .AQ 184 [p] λa=>.AQ 184 [q] λb=>.se [a,b] λc=>.rr [c]
def xG:Ff cx 106 aDw:=λ_ _=>by kernel_rfl
def aDx(p q:Aa):IT:=
 .fl q 3 λ_ a=>.lt [a] λb=>.lt [p] λc=>.ih [b,c] λd=>.AJ d (.fl q 3 λ_ e=>.lt [p] λf=>.op (.PQ 0 true false true) [e,f] λh=>.AQ 106 [h,p] λj=>.rr [j]) (.rr [ff])
def xH:Ff cx 107 aDx:=λ_ _=>by kernel_rfl
def aDy(p q:Aa):IT:=
 .call 185 [p,q] λa=>.ih [a,I 0] λb=>.rr [b]
def xI:Ff cx 108 aDy:=λ_ _=>by kernel_rfl
def t109(p q:Aa):IT:=
 .call 187 [q] λa=>.call 186 [a,p] λb=>.rr [b]
def fM:Ff cx 109 t109:=λ_ _=>by kernel_rfl
def aDz(p q r:Aa):IT:=
 .cells 12 q λa=>.call 31 [p] λb=>.nt [b] λc=>.AJ c (.rr [I 0]) (.call 188 [p,.func (.func 189) [p] [],Gf a,r] λd=>.rr [d])
def xJ:RL cx 110 aDz:=λ_ _ _=>by kernel_rfl
def aDA(p q:Aa):IT:=
 .op (.conv .u32) [q] λa=>.ik [a,.int .u32 127] λb=>.AJ b (.op (.conv .u8) [q] λc=>.op (.Cl 1) [c] λd=>.F8 1 1 p d λe=>.rr [e]) (.call 190 [p,q] λf=>.rr [f])
def xK:Ff cx 111 aDA:=λ_ _=>by kernel_rfl
def aDB(p q r:Aa):IT:=
 .op (.Cl 1) [q] λa=>.call 93 [p,a] λb=>.iq [b,I 0] λc=>.AJ c (.rr [b]) (.call 57 [p,q] λd=>.fa d 0 λ_ e=>.fl e 0 λ_ f=>.iq [f,I 5] λh=>.AJ h (.fa d 0 λ_ j=>.fl j 0 λ_ k=>.iq [k,I 6] λm=>.AJ m (.rr [I 9]) (.fa d 0 λ_ n=>.op (.FN 7) [n] λo=>.store 1 o r (.rr [I 0]))) (.fa d 0 λ_ s=>.op (.FN 7) [s] λu=>.store 1 u r (.rr [I 0])))
def xL:RL cx 112 aDB:=λ_ _ _=>by kernel_rfl
def aDC(p q r:Aa):IT:=
 .op (.CT [I 0,I 0,.slnil,I 0,I 0,S [],.slnil,S [],S [],S [],ff,I 0,I 0] [(0,1),(7,1)]) [I 5,r] λa=>.call 101 [p,q,a] λb=>.op (.ext 0) [b] λc=>.op (.ext 1) [b] λd=>.rr [.tuple [c,d]]
def xM:RL cx 113 aDC:=λ_ _ _=>by kernel_rfl
def aDD(p:Aa):IT:=
 .call 10 [p] λa=>.ib [a,I 1] λb=>.call 12 [p,b] λc=>.cells 4 c λd=>.rr [a4 d]
def xN:FW cx 114 aDD:=λ_=>by kernel_rfl
def aDE(p q r:Aa):IT:=
 .cells 3 q λa=>.op (.PQ 3 false false true) [p,r] λb=>.op (.append 3 48) [.slnil,b] λc=>.op (.Cl 3) [a3 a] λd=>.op (.append 3 48) [c,d] λe=>.op (.PQ 3 false true false) [p,r] λf=>.op (.append 3 48) [e,f] λh=>.rr [h]
def xO:RL cx 115 aDE:=λ_ _ _=>by kernel_rfl
def aDF(p q:Aa):IT:=
 .cells 1 q λa=>.call 191 [p,.func (.func 192) [] [.B4 [g a 0]]] λb=>.rr [b]
def xP:Ff cx 116 aDF:=λ_ _=>by kernel_rfl
def aDG(p:Aa):IT:=
 .call 159 [p,.func (.func 193) [] [],.func (.func 160) [] []] λa=>.rr [a]
def xQ:FW cx 117 aDG:=λ_=>by kernel_rfl
def aDH(p q:Aa):IT:=
 .cells 4 q λa=>.op (.Ud true) [p,.ptr none] λb=>.AJ b (.BZ p 0 λ_ _ c=>.BZ p 0 λ_ _ d=>.ln [d] λe=>.call 195 [c,a4 a,e] λf=>.fa p 0 λ_ h=>.store 1 h f (.rr [.tuple []])) (.rr [.tuple []])
def xR:Ff cx 118 aDH:=λ_ _=>by kernel_rfl
def Ŏ(p q:Aa):IT:=
 .call 143 [p,q] λa=>.il [a,I 1] λb=>.AJ b (.rr [ff]) (.BZ p 0 λ_ _ c=>.call 196 [c,a] λd=>.fa p 0 λ_ e=>.store 1 e d (.rr [tt]))
def fN:Ff cx 119 Ŏ:=λ_ _=>by kernel_rfl
def aDI(p q r:Aa):IT:=
 .call 187 [q] λa=>.ln [a] λb=>.loop 1 [I 0] (λc=>.il [g c 0,b] λd=>.AJ d (.ea 1 [a,g c 0] λe=>.ld e λf=>.H6 p f r (.ia [g c 0,I 1] λh=>.rn [h])) (.rx 0 [g c 0])) (lx 0 (λj=>.rr [.tuple []]) λj=>.rr [.tuple []])
def xS:RL cx 120 aDI:=λ_ _ _=>by kernel_rfl
def aDJ(p:Aa):IT:=
 .BZ p 0 λ_ _ a=>.fa p 1 λ_ b=>.load (some 12) b λc=>.call 46 [a,c] λd=>.rr [d]
def xT:FW cx 121 aDJ:=λ_=>by kernel_rfl
def aDK(p:Aa):IT:=
 .cells 1 p λa=>.rr [.func (.func 197) [] [.B4 [g a 0]]]
def xU:FW cx 122 aDK:=λ_=>by kernel_rfl
def aDL(p:Aa):IT:=
 .BZ p 0 λ_ _ a=>.call 198 [a] λ_=>.BZ p 0 λ_ _ b=>.fa p 1 λ_ c=>.load (some 12) c λd=>.call 67 [b,d] λ_=>.rr [.tuple []]
def xV:FW cx 123 aDL:=λ_=>by kernel_rfl
def zl(p:Aa):IT:=
 .BZ p 0 λ_ _ a=>.call 198 [a] λ_=>.BZ p 0 λ_ _ b=>.call 175 [b] λc=>.cells 4 c λd=>.ie [g d 1,I 1] λe=>.AJ e (.AQ 199 [g d 2] λf=>.AJ f (.BZ p 0 λ_ _ h=>.fa h 2 λ_ j=>.call 73 [j] λ_=>.BZ p 0 λ_ _ k=>.fa p 1 λ_ m=>.load (some 12) m λn=>.call 67 [k,n] λ_=>.rr [.tuple []]) (.BZ p 0 λ_ _ o=>.fa p 1 λ_ s=>.load (some 12) s λu=>.call 67 [o,u] λ_=>.rr [.tuple []])) (.BZ p 0 λ_ _ w=>.fa p 1 λ_ y=>.load (some 12) y λz=>.call 67 [w,z] λ_=>.rr [.tuple []])
def WC:FW cx 124 zl:=λ_=>by kernel_rfl
def aDM(p:Aa):IT:=
 .call 123 [p] λ_=>.BZ p 0 λ_ _ a=>.fa a 17 λ_ b=>.store 1 b tt (.BZ p 0 λ_ _ c=>.fa c 14 λ_ d=>.store 1 d ff (.rr [.tuple []]))
def xW:FW cx 125 aDM:=λ_=>by kernel_rfl
def aDN(p:Aa):IT:=
 .BZ p 0 λ_ _ a=>.call 80 [a] λ_=>.BZ p 0 λ_ _ b=>.fa p 1 λ_ c=>.load (some 12) c λd=>.call 200 [b,d] λ_=>.rr [.tuple []]
def xX:FW cx 126 aDN:=λ_=>by kernel_rfl
def t127(p:Aa):IT:=
 .BZ p 0 λ_ _ a=>.call 80 [a] λ_=>.BZ p 0 λ_ _ b=>.fa p 1 λ_ c=>.load (some 12) c λd=>.call 67 [b,d] λ_=>.BZ p 0 λ_ _ e=>.fa e 3 λ_ f=>.call 74 [f] λ_=>.BZ p 0 λ_ _ h=>.fa h 14 λ_ j=>.store 1 j ff (.rr [.tuple []])
def xY:FW cx 127 t127:=λ_=>by kernel_rfl
def ZK(p:Aa):IT:=
 .BZ p 0 λ_ _ a=>.BZ a 14 λ_ _ b=>.fa p 1 λ_ c=>.fl c 1 λ_ d=>.se [d,S [104,114]] λe=>.AJ e (.BZ p 0 λ_ _ f=>.call 198 [f] λ_=>.BZ p 0 λ_ _ h=>.fa p 1 λ_ j=>.load (some 12) j λk=>.call 70 [h,k] λ_=>.BZ p 0 λ_ _ m=>.fa m 14 λ_ n=>.store 1 n ff (.rr [.tuple []])) (.se [d,S aYz] λo=>.AJ o (.BZ p 0 λ_ _ s=>.fa p 1 λ_ u=>.load (some 12) u λw=>.call 70 [s,w] λ_=>.BZ p 0 λ_ _ y=>.fa y 14 λ_ z=>.store 1 z b (.rr [.tuple []])) (.se [d,S aYi] λa0=>.AJ a0 (.BZ p 0 λ_ _ a1=>.fa p 1 λ_ a2=>.load (some 12) a2 λa5=>.call 70 [a1,a5] λ_=>.BZ p 0 λ_ _ a7=>.fa a7 14 λ_ a8=>.store 1 a8 b (.rr [.tuple []])) (.se [d,S aYA] λb0=>.AJ b0 (.BZ p 0 λ_ _ b1=>.fa p 1 λ_ b2=>.load (some 12) b2 λb3=>.call 70 [b1,b3] λ_=>.BZ p 0 λ_ _ b4=>.fa b4 14 λ_ b5=>.store 1 b5 b (.rr [.tuple []])) (.se [d,S aYq] λb6=>.AJ b6 (.BZ p 0 λ_ _ b7=>.call 80 [b7] λ_=>.AJ b (.fa p 1 λ_ b8=>.load (some 12) b8 λb9=>.call 201 [b9] λc0=>.BZ p 0 λ_ _ c1=>.fa p 1 λ_ c2=>.load (some 12) c2 λc3=>.call 70 [c1,c3] λ_=>.BZ p 0 λ_ _ c4=>.fa c4 14 λ_ c5=>.store 1 c5 c0 (.rr [.tuple []])) (.BZ p 0 λ_ _ c6=>.fa p 1 λ_ c7=>.load (some 12) c7 λc8=>.call 70 [c6,c8] λ_=>.BZ p 0 λ_ _ c9=>.fa c9 14 λ_ d0=>.store 1 d0 ff (.rr [.tuple []]))) (.se [d,S aYu] λd1=>.AJ d1 (.fa p 1 λ_ d2=>.op (.FN 1) [d2] λd3=>.store 1 d3 (S aYH) (.BZ p 0 λ_ _ d4=>.call 80 [d4] λ_=>.BZ p 0 λ_ _ d5=>.fa p 1 λ_ d6=>.load (some 12) d6 λd7=>.call 70 [d5,d7] λ_=>.BZ p 0 λ_ _ d8=>.fa d8 14 λ_ d9=>.store 1 d9 ff (.rr [.tuple []]))) (.BZ p 0 λ_ _ e0=>.call 80 [e0] λ_=>.BZ p 0 λ_ _ e1=>.fa p 1 λ_ e2=>.load (some 12) e2 λe3=>.call 70 [e1,e3] λ_=>.BZ p 0 λ_ _ e4=>.fa e4 14 λ_ e5=>.store 1 e5 ff (.rr [.tuple []])))))))
def Mq:FW cx 128 ZK:=λ_=>by kernel_rfl
end Go.Am
