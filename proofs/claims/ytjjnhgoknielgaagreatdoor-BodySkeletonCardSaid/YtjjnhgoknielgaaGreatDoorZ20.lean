/- Lemmas -/
import Derived.Test.YtjjnhgoknielgaaGreatDoorZ9
import Derived.Test.YtjjnhgoknielgaaGreatDoorZ17
set_option linter.all false
namespace Go.Am
open Go
def t63(p q r:Aa):IT:=
 .ca 107 [p,q] λa=>.iq [a,I 0] λb=>.A3 b (.rr [a]) (.ca 24 [p,q] λc=>.fa c 0 λ_ d=>.op (.Gr 10) [d] λe=>.store 1 e r (.rr [I 0]))
def P_:SY cx 63 t63:=λ_ _ _=>AP
def t64(p q:Aa):IT:=
 .fa p 4 λ_ a=>.store 1 a q (.rr [tt])
def uD:F7 cx 64 t64:=λ_ _=>AP
def t65(p q r u w:Aa):IT:=
 .op (.C7 [I 0,I 0,.slnil,I 0,I 0,S [],.slnil,S [],S [],S [],ff,I 0,I 0] [(0,1),(5,1),(8,1),(9,1)]) [I 3,r,u,w] λa=>.ca 108 [p,q,a] λb=>.op (.ext 0) [b] λc=>.op (.ext 1) [b] λd=>.rr [.tuple [c,d]]
def Q_:Tq5 cx 65 t65:=λ_ _ _ _ _=>AP
def t66(p q r u:Aa):IT:=
 .op (.CC 1) [q,r] λa=>.ca 25 [p,a] λb=>.iq [b,I 0] λc=>.A3 c (.rr [b]) (.GK 200004 (.iq [u,I 0] λd=>.A3 d (.ca 22 [p,u] λe=>.nt [e] λf=>.rn [f]) (.rn [ff])) (nx (λh=>.A3 (g h 0) (.rr [I 3]) (.ca 24 [p,q] λj=>.ca 24 [p,r] λk=>.GK 200007 (.fa j 0 λ_ m=>.fl m 0 λ_ n=>.iq [n,I 1] λo=>.A3 o (.fa j 0 λ_ s=>.fl s 0 λ_ w=>.iq [w,I 2] λy=>.A3 y (.fa j 0 λ_ z=>.fl z 0 λ_ a0=>.iq [a0,I 4] λa1=>.rn [a1]) (.rn [ff])) (.rn [ff])) (λx a2=>match x with| .normal=>.A3 (g a2 0) (.rr [I 4]) (.fa k 0 λ_ a5=>.fl a5 0 λ_ a7=>.ie [a7,I 1] λa8=>.A3 a8 (.rr [I 4]) (.fa k 0 λ_ b0=>.fl b0 0 λ_ b1=>.ie [b1,I 2] λb2=>.A3 b2 (.rr [I 4]) (.ca 109 [p,r,q] λb3=>.A3 b3 (.rr [I 4]) (.GK 200012 (.iq [u,I 0] λb4=>.A3 b4 (.ie [u,r] λb5=>.A3 b5 (.rn [tt]) (.ca 24 [p,u] λb6=>.fa b6 0 λ_ b7=>.fl b7 1 λ_ b8=>.iq [b8,q] λb9=>.rn [b9])) (.rn [ff])) (λx c0=>match x with| .normal=>.A3 (g c0 0) (.rr [I 5]) (.ca 110 [p,r] λ_=>.fa j 0 λ_ c1=>.fl c1 2 λ_ c2=>.ln [c2] λc3=>.iq [u,I 0] λc4=>.GK 100103 (.A3 c4 (.fa j 0 λ_ c5=>.fl c5 2 λ_ c7=>.ca 111 [c7,u] λc8=>.rn [c8]) (.rn [c3])) (nx (λc9=>.fa j 0 λ_ d0=>.fl d0 2 λ_ d1=>.op (.CC 1) [r] λd2=>.mem .lg [d1,g c9 0,d2] λd3=>.fa j 0 λ_ d4=>.op (.Gr 2) [d4] λd5=>.store 1 d5 d3 (.fa k 0 λ_ d6=>.op (.Gr 1) [d6] λd7=>.store 1 d7 q (.rr [I 0]))) λc9=>.rr [I 0]))| .exit i=>if i=0 then .ca 110 [p,r] λ_=>.fa j 0 λ_ d8=>.fl d8 2 λ_ d9=>.ln [d9] λe0=>.iq [u,I 0] λe1=>.GK 100103 (.A3 e1 (.fa j 0 λ_ e2=>.fl e2 2 λ_ e3=>.ca 111 [e3,u] λe4=>.rn [e4]) (.rn [e0])) (nx (λe5=>.fa j 0 λ_ e6=>.fl e6 2 λ_ e7=>.op (.CC 1) [r] λe8=>.mem .lg [e7,g e5 0,e8] λe9=>.fa j 0 λ_ f0=>.op (.Gr 2) [f0] λf1=>.store 1 f1 e9 (.fa k 0 λ_ f2=>.op (.Gr 1) [f2] λf3=>.store 1 f3 q (.rr [I 0]))) λe5=>.rr [I 0]) else .fail| .ret=>.rr [I 0])))))| .exit i=>if i=0 then .ca 110 [p,r] λ_=>.fa j 0 λ_ f4=>.fl f4 2 λ_ f5=>.ln [f5] λf6=>.iq [u,I 0] λf7=>.GK 100103 (.A3 f7 (.fa j 0 λ_ f8=>.fl f8 2 λ_ f9=>.ca 111 [f9,u] λh0=>.rn [h0]) (.rn [f6])) (nx (λh1=>.fa j 0 λ_ h2=>.fl h2 2 λ_ h3=>.op (.CC 1) [r] λh4=>.mem .lg [h3,g h1 0,h4] λh5=>.fa j 0 λ_ h6=>.op (.Gr 2) [h6] λh7=>.store 1 h7 h5 (.fa k 0 λ_ h8=>.op (.Gr 1) [h8] λh9=>.store 1 h9 q (.rr [I 0]))) λh1=>.rr [I 0]) else .fail| .ret=>.rr [I 0]))) λh=>.rr [I 0]))
def QQ:Tq4 cx 66 t66:=λ_ _ _ _=>AP
def t67(p:Aa):IT:=
 .cells 12 p λa=>.iq [g a 0,I 1] λb=>.A3 b (.rr [ff]) (.A3 (g a 7) (.rr [tt]) (.nt [g a 2] λc=>.A3 c (.rr [tt]) (.op (.str .neq) [g a 1,S aWu] λd=>.A3 d (.rr [tt]) (.nt [g a 4] λe=>.A3 e (.rr [ff]) (.op (.CC 1) [S aW2,S aW4,S [72,84,77,76]] λf=>.ln [f] λh=>.loop 8 [ff,I 0] (λj=>.il [g j 1,h] λk=>.A3 k (.ea 1 [f,g j 1] λm=>.ld m λn=>.BH 113 [g a 3,n] λo=>.A3 o (.rr [tt,g j 1]) (.ia [g j 1,I 1] λs=>.rn [g j 0,s])) (.rx 0 [g j 0,g j 1])) (lx 0 (λu=>.fl (.B9 [g a 0,g a 1,g a 2,g a 3,g a 4,g a 5,g a 6,g a 7,g a 8,g a 9,g a 10,g a 11]) 6 λ_ w=>.nt [w] λy=>.A3 y (.EG (.func (.func 114) [] [.B9 [g a 0,g a 1,g a 2,g a 3,g a 4,g a 5,g a 6,g a 7,g a 8,g a 9,g a 10,g a 11]]) [S aW9] λz=>.A3 z (.rr [tt]) (.EG (.func (.func 114) [] [.B9 [g a 0,g a 1,g a 2,g a 3,g a 4,g a 5,g a 6,g a 7,g a 8,g a 9,g a 10,g a 11]]) [S aWX] λa0=>.A3 a0 (.rr [tt]) (.op (.CC 1) [S aXd,S aW5,S aXk,S aWY,S aWZ,S aXl,S aWR,S aXh,S aWQ,S aWK,S aWE,S aWG,S aXe,S aW1] λa1=>.ca 115 [a1,.func (.func 114) [] [.B9 [g a 0,g a 1,g a 2,g a 3,g a 4,g a 5,g a 6,g a 7,g a 8,g a 9,g a 10,g a 11]]] λa2=>.rr [a2]))) (.op (.CC 1) [S aXd,S aW5,S aXk,S aWY,S aWZ,S aXl,S aWR,S aXh,S aWQ,S aWK,S aWE,S aWG,S aXe,S aW1] λa5=>.ca 115 [a5,.func (.func 114) [] [.B9 [g a 0,g a 1,g a 2,g a 3,g a 4,g a 5,g a 6,g a 7,g a 8,g a 9,g a 10,g a 11]]] λa7=>.rr [a7])) λu=>.rr [g u 0]))))))
def R_:GM cx 67 t67:=λ_=>AP
def t68(p q:Aa):IT:=
 .cells 12 p λa=>.ie [g a 0,I 3] λb=>.A3 b (.BH 116 [g a 1,q] λc=>.nt [c] λd=>.rr [d]) (.rr [ff])
def S_:F7 cx 68 t68:=λ_ _=>AP
def t69(p q:Aa):IT:=
 .cells 12 p λa=>.ie [g a 0,I 2] λb=>.A3 b (.BH 116 [g a 1,q] λc=>.rr [c]) (.rr [ff])
def T_:F7 cx 69 t69:=λ_ _=>AP
def t70(p q:Aa):IT:=
 .cells 12 q λa=>.ca 117 [p,GA a,I 1] λb=>.rr [b]
def U_:F7 cx 70 t70:=λ_ _=>AP
def t71(p:Aa):IT:=
 .op (.C7 [I 0,S [],ff,S [],ff,S [],ff,ff,.slnil,ff,S [],.int .i32 0] [(0,1),(1,1)]) [I 2,p] λa=>.cells 12 a λb=>.rr [GA b]
def V_:GM cx 71 t71:=λ_=>AP
def t72(p q:Aa):IT:=
 .ca 102 [p] λa=>.nt [a] λb=>.A3 b (.rr [.tuple []]) (.ca 103 [p,I 0] λc=>.op (.ext 0) [c] λd=>.op (.ext 1) [c] λe=>.ca 104 [p,d] λf=>.cells 13 f λh=>.GK 200003 (.iq [g h 0,I 4] λj=>.A3 j (.iq [g h 0,I 2] λk=>.rn [k]) (.rn [ff])) (nx (λm=>.A3 (g m 0) (.rr [.tuple []]) (.ln [g h 2] λn=>.iq [e,I 0] λo=>.GK 100035 (.A3 o (.ca 111 [g h 2,e] λs=>.rn [s]) (.rn [n])) (nx (λu=>.ca 118 [.slnil,q] λw=>.VY w λy=>.op .ZM [y] λz=>.ig [g u 0,I 0] λa0=>.GK 100044 (.A3 a0 (.ib [g u 0,I 1] λa1=>.ea 1 [g h 2,a1] λa2=>.ld a2 λa5=>.ca 104 [p,a5] λa7=>.cells 13 a7 λa8=>.ie [g a8 0,I 5] λb0=>.A3 b0 (.Cj p 0 λ_ _ b1=>.ib [g u 0,I 1] λb2=>.ea 1 [g h 2,b2] λb3=>.ld b3 λb4=>.op (.str .add) [g a8 7,z] λb5=>.ca 119 [b1,b4,b5] λ_=>.rr []) (.rn [])) (.rn [])) (nx (λb6=>.Cj p 0 λ_ _ b7=>.ca 120 [b7,g h 3,z] λb8=>.op (.ext 0) [b8] λb9=>.op (.ext 1) [b8] λc0=>.ie [c0,I 0] λc1=>.GK 100083 (.A3 c1 (.ca 106 [p,b9,d,e] λ_=>.rn []) (.rn [])) (nx (λc2=>.rr [.tuple []]) λc2=>.rr [.tuple []])) λb6=>.rr [.tuple []])) λu=>.rr [.tuple []]))) λm=>.rr [.tuple []]))
def YL:F7 cx 72 t72:=λ_ _=>AP
def t73(p q:Aa):IT:=
 .cells 12 q λa=>.ca 70 [p,GA a] λ_=>.fa p 2 λ_ b=>.ca 76 [b] λ_=>.rr [.tuple []]
def W_:F7 cx 73 t73:=λ_ _=>AP
def t74(p q r:Aa):IT:=
 .cells 12 q λa=>.ca 102 [p] λb=>.A3 b (.ca 70 [p,GA a] λ_=>.Cj p 4 λ_ _ c=>.fa p 18 λ_ d=>.store 1 d r (.fa p 5 λ_ e=>.store 1 e c (.fa p 4 λ_ f=>.store 1 f (I 8) (.rr [.tuple []])))) (.rr [.tuple []])
def X_:SY cx 74 t74:=λ_ _ _=>AP
def t75(p q:Aa):IT:=
 .cells 12 p λa=>.ie [g a 0,I 3] λb=>.A3 b (.BH 116 [g a 1,q] λc=>.rr [c]) (.rr [ff])
def Y_:F7 cx 75 t75:=λ_ _=>AP
def t76(p:Aa):IT:=
 .ca 121 [p] λa=>.il [a,I 2] λb=>.A3 b (.op (.C7 [I 0,I 0,S [],ff] []) [] λc=>.cells 4 c λd=>.rr [a4 d]) (.ca 122 [p] λe=>.cells 4 e λf=>.Cj p 0 λ_ _ h=>.Cj p 0 λ_ _ j=>.ln [j] λk=>.ib [k,I 1] λm=>.op (.Rb 4 false false true) [h,m] λn=>.fa p 0 λ_ o=>.store 1 o n (.cells 4 (a4 f) λs=>.rr [a4 s]))
def gQ:GM cx 76 t76:=λ_=>AP
def t77(p:Aa):IT:=
 .op (.Wx true) [p,.ptr none] λa=>.A3 a (.Cj p 0 λ_ _ b=>.op (.C7 [I 0,S [],.slnil] []) [] λc=>.Cj p 0 λ_ _ d=>.ln [d] λe=>.ca 123 [b,c,e] λf=>.fa p 0 λ_ h=>.store 1 h f (.rr [.tuple []])) (.rr [.tuple []])
def Z_:GM cx 77 t77:=λ_=>AP
def t78(p:Aa):IT:=
 .op (.Gf false .sl) [p,.slnil] λa=>.A3 a (.rr [.slnil]) (.op (.CC 1) [] λb=>.op (.append 1 8) [b,p] λc=>.rr [c])
def uE:GM cx 78 t78:=λ_=>AP
def t79(p:Aa):IT:=
 .ca 102 [p] λa=>.nt [a] λb=>.A3 b (.rr [.tuple []]) (.fa p 2 λ_ c=>.ca 124 [c,S aWw] λd=>.il [d,I 0] λe=>.A3 e (.rr [.tuple []]) (.fa p 2 λ_ f=>.ca 125 [f] λ_=>.fa p 2 λ_ h=>.op (.CC 1) [S aWw] λj=>.ca 89 [h,j] λ_=>.fa p 3 λ_ k=>.ca 90 [k] λ_=>.Cj p 6 λ_ _ m=>.ln [m] λn=>.ig [n,I 0] λo=>.A3 o (.Cj p 6 λ_ _ s=>.ib [n,I 1] λu=>.op (.Rb 1 false false true) [s,u] λw=>.ca 78 [w] λy=>.fa p 6 λ_ z=>.store 1 z y (.ca 92 [p] λ_=>.rr [.tuple []])) (.ca 92 [p] λ_=>.rr [.tuple []])))
def gR:GM cx 79 t79:=λ_=>AP
def t80(p q r:Aa):IT:=
 .cells 12 q λa=>.Cj p 7 λ_ _ b=>.fa p 2 λ_ c=>.op (.C7 [I 0,I 0,S [],ff] [(0,1),(1,1),(2,1)]) [b,I 1,S aWy] λd=>.ca 126 [c,d] λ_=>.EG r [p,GA a] λe=>.fa p 2 λ_ f=>.ca 127 [f,b] λ_=>.rr [e]
def À:SY cx 80 t80:=λ_ _ _=>AP
def t81(p:Aa):IT:=
 .fa p 1 λ_ a=>.fl a 11 λ_ b=>.ie [b,.int .i32 0] λc=>.A3 c (.rr [.tuple []]) (.Cj p 0 λ_ _ d=>.ca 84 [d] λ_=>.Cj p 0 λ_ _ e=>.fa p 1 λ_ f=>.fl f 11 λ_ h=>.ca 72 [e,h] λ_=>.fa p 1 λ_ j=>.load (some 12) j λk=>.ca 61 [k] λm=>.nt [m] λn=>.A3 n (.Cj p 0 λ_ _ o=>.fa o 14 λ_ s=>.store 1 s ff (.rr [.tuple []])) (.rr [.tuple []]))
def gS:GM cx 81 t81:=λ_=>AP
def t82(p:Aa):IT:=
 .ca 102 [p] λa=>.A3 a (.fa p 19 λ_ b=>.store 1 b tt (.rr [.tuple []])) (.rr [.tuple []])
def Á:GM cx 82 t82:=λ_=>AP
def t83:IT:=
 .Og λa=>.ca 128 [a,S aWt,.func (.func 129) [] []] λ_=>.ca 130 [.func (.func 131) [] []] λb=>.ca 128 [a,S aWv,b] λ_=>.ca 130 [.func (.func 132) [] []] λc=>.ca 128 [a,S aWI,c] λ_=>.ca 130 [.func (.func 133) [] []] λd=>.ca 128 [a,S aXS,d] λ_=>.ca 130 [.func (.func 134) [] []] λe=>.ca 128 [a,S aWJ,e] λ_=>.ca 130 [.func (.func 135) [] []] λf=>.ca 128 [a,S aWN,f] λ_=>.ca 130 [.func (.func 136) [] []] λh=>.ca 128 [a,S aWB,h] λ_=>.ca 128 [a,S aWC,.func (.func 137) [] []] λ_=>.ca 130 [.func (.func 138) [] []] λj=>.ca 128 [a,S aWS,j] λ_=>.ca 130 [.func (.func 139) [] []] λk=>.ca 128 [a,S aXT,k] λ_=>.ca 130 [.func (.func 140) [] []] λm=>.ca 128 [a,S aYi,m] λ_=>.ca 130 [.func (.func 141) [] []] λn=>.ca 128 [a,S aYj,n] λ_=>.ca 130 [.func (.func 142) [] []] λo=>.ca 128 [a,S aXB,o] λ_=>.ca 130 [.func (.func 143) [] []] λs=>.ca 128 [a,S aYb,s] λ_=>.ca 130 [.func (.func 144) [] []] λu=>.ca 130 [.func (.func 145) [] []] λw=>.ca 130 [.func (.func 146) [] []] λy=>.mem (.Xk .nilFunc) [a,S aWA] λz=>.op (.ext 1) [z] λa0=>.mem .Ld [a,a0,u] λ_=>.Ig a (S aWU) w (.Ig a (S aWx) y (.ca 130 [.func (.func 147) [] []] λa1=>.ca 130 [.func (.func 148) [] []] λa2=>.ca 130 [.func (.func 149) [] []] λa5=>.ca 130 [.func (.func 150) [] []] λa7=>.mem (.Xk .nilFunc) [a,S [97]] λa8=>.op (.ext 1) [a8] λb0=>.mem .Ld [a,b0,a1] λ_=>.Ig a (S aWT) a2 (.Ig a (S aWL) a5 (.Ig a (S aW6) a7 (.rr [a])))))
def Â:Cd cx 83 []=t83:=AP
def t84(p:Aa):IT:=
 .ca 102 [p] λa=>.nt [a] λb=>.A3 b (.IX 3 p (.rr [.tuple []])) (.fa p 3 λ_ c=>.fl c 0 λ_ d=>.ln [d] λe=>.loop 2 [e] (λf=>.ig [g f 0,I 0] λh=>.A3 h (.fa p 3 λ_ j=>.fl j 0 λ_ k=>.ib [g f 0,I 1] λm=>.ea 3 [k,m] λn=>.fl n 0 λ_ o=>.iq [o,I 0] λs=>.A3 s (.fa p 2 λ_ u=>.fa p 3 λ_ w=>.fl w 0 λ_ y=>.ib [g f 0,I 1] λz=>.ea 3 [y,z] λa0=>.fl a0 0 λ_ a1=>.ca 151 [u,a1] λa2=>.il [a2,I 0] λa5=>.A3 a5 (.ib [g f 0,I 1] λa7=>.rn [a7]) (.rx 0 [g f 0])) (.rx 0 [g f 0])) (.rx 0 [g f 0])) (lx 0 (λa8=>.fa p 3 λ_ b0=>.fl b0 0 λ_ b1=>.ca 152 [b1] λb2=>.fa p 3 λ_ b3=>.op (.Gr 0) [b3] λb4=>.store 1 b4 b2 (.loop 5 [g a8 0] (λb5=>.fa p 3 λ_ b6=>.fl b6 0 λ_ b7=>.ln [b7] λb8=>.il [g b5 0,b8] λb9=>.A3 b9 (.fa p 3 λ_ c0=>.fl c0 0 λc1 c2=>.fa p 3 λ_ c3=>.fl c3 0 λ_ c4=>.ea 3 [c4,g b5 0] λc5=>.load (some 3) c5 λc6=>.ca 153 [c6] λc8=>.ld c1 λc9=>.same c2 c9 (.ca 70 [p,c8] λd0=>.ld c1 λd1=>.same c2 d1 (.ea 3 [c2,g b5 0] λd2=>.op (.Gr 0) [d2] λd3=>.store 1 d3 d0 (.ia [g b5 0,I 1] λd4=>.rn [d4])))) (.rx 2 [g b5 0])) (lx 2 (λd5=>.IX 3 p (.rr [.tuple []])) λd5=>.IX 3 p (.rr [.tuple []])))) λa8=>.IX 3 p (.rr [.tuple []])))
def Ã:GM cx 84 t84:=λ_=>AP
def t85:IT:=
 .Og λa=>.Ig a (S aWw) (.func (.func 129) [] []) (.Ig a (S aWz) (.func (.func 154) [] []) (.Ig a (S aWu) (.func (.func 154) [] []) (.ca 130 [.func (.func 155) [] []] λb=>.ca 128 [a,S aWs,b] λ_=>.ca 130 [.func (.func 156) [] []] λc=>.ca 128 [a,S aWD,c] λ_=>.ca 130 [.func (.func 158) [] []] λd=>.ca 128 [a,S aWI,d] λ_=>.ca 130 [.func (.func 159) [] []] λe=>.ca 128 [a,S aWN,e] λ_=>.ca 130 [.func (.func 160) [] []] λf=>.ca 128 [a,S aX5,f] λ_=>.ca 130 [.func (.func 161) [] []] λh=>.Ig a (S aWU) h (.ca 130 [.func (.func 162) [] []] λj=>.Ig a (S [98,114]) j (.rr [a])))))
def Ä:Cd cx 85 []=t85:=AP
def t86(p q:Aa):IT:=
 .ca 102 [p] λa=>.nt [a] λb=>.A3 b (.rr [.tuple []]) (.fa p 2 λ_ c=>.ca 121 [c] λd=>.ib [d,I 1] λe=>.loop 2 [e] (λf=>.ih [g f 0,I 0] λh=>.A3 h (.fa p 2 λ_ j=>.ca 163 [j,g f 0] λk=>.cells 4 k λm=>.op (.CC 1) [q] λn=>.ca 164 [a4 m,n] λo=>.A3 o (.fa p 2 λ_ s=>.ca 165 [s,q] λ_=>.fa p 2 λ_ u=>.ca 166 [u,g m 0] λ_=>.rr [g f 0]) (.BH 167 [g m 1,g m 2] λw=>.A3 w (.rr [g f 0]) (.ib [g f 0,I 1] λy=>.rn [y]))) (.rx 0 [g f 0])) (lx 0 (λz=>.rr [.tuple []]) λz=>.rr [.tuple []]))
def Å:F7 cx 86 t86:=λ_ _=>AP
def t87(p q:Aa):IT:=
 .ca 100091 [p] λ_=>.Cj p 6 λ_ _ a=>.op (.CC 1) [q] λb=>.GL 1 8 a b λc=>.fa p 6 λ_ d=>.store 1 d c (.ca 64 [p,q] λe=>.IX 6 p (.rr [e]))
def Æ:F7 cx 87 t87:=λ_ _=>AP
def t88(p:Aa):IT:=
 .fa p 2 λ_ a=>.ca 124 [a,S aWw] λb=>.ih [b,I 0] λc=>.rr [c]
def Ç:GM cx 88 t88:=λ_=>AP
def t89(p q:Aa):IT:=
 .cells 1 q λa=>.ca 168 [p,.func (.func 169) [] [],.func (.func 170) [] [.B9 [g a 0]]] λb=>.rr [b]
def È:F7 cx 89 t89:=λ_ _=>AP
def t90(p:Aa):IT:=
 .op (.Wx false) [p,.ptr none] λa=>.A3 a (.rr [I 0]) (.Cj p 0 λ_ _ b=>.ln [b] λc=>.Cj p 0 λ_ d e=>.ca 172 [p] λf=>.ld d λh=>.same e h (.ib [f,I 1] λj=>.op (.Mr true) [j,I 0] λk=>.op (.Rb 3 false false true) [e,k] λm=>.fa p 0 λ_ n=>.store 1 n m (.Cj p 0 λ_ _ o=>.ln [o] λs=>.ib [c,s] λu=>.rr [u])))
def É:GM cx 90 t90:=λ_=>AP
def t91(p:Aa):IT:=
 .Cj p 6 λ_ _ a=>.ln [a] λb=>.ig [b,I 0] λc=>.A3 c (.Cj p 6 λ_ _ d=>.ib [b,I 1] λe=>.op (.Rb 1 false false true) [d,e] λf=>.ca 78 [f] λh=>.fa p 6 λ_ j=>.store 1 j h (.rr [.tuple []])) (.rr [.tuple []])
def uF:GM cx 91 t91:=λ_=>AP
def t92(p:Aa):IT:=
 .ca 102 [p] λa=>.nt [a] λb=>.A3 b (.rr [.tuple []]) (.fa p 4 λ_ c=>.store 1 c (I 7) (.fa p 2 λ_ d=>.ca 121 [d] λe=>.ib [e,I 1] λf=>.loop 3 [f] (λh=>.ih [g h 0,I 0] λj=>.A3 j (.fa p 2 λ_ k=>.ca 163 [k,g h 0] λm=>.cells 4 m λn=>.ie [g h 0,I 0] λo=>.A3 o (.Cj p 9 λ_ _ s=>.A3 s (.fa p 10 λ_ u=>.load (some 4) u λw=>.cells 4 w λy=>.ca 173 [p,a4 y,g h 0] λz=>.op (.ext 0) [z] λa0=>.op (.ext 1) [z] λa1=>.A3 a1 (.fa p 4 λ_ a2=>.store 1 a2 a0 (.rr [g h 0])) (.ib [g h 0,I 1] λa5=>.rn [a5])) (.ca 173 [p,a4 n,g h 0] λa7=>.op (.ext 0) [a7] λa8=>.op (.ext 1) [a7] λb0=>.A3 b0 (.fa p 4 λ_ b1=>.store 1 b1 a8 (.rr [g h 0])) (.ib [g h 0,I 1] λb2=>.rn [b2]))) (.ca 173 [p,a4 n,g h 0] λb3=>.op (.ext 0) [b3] λb4=>.op (.ext 1) [b3] λb5=>.A3 b5 (.fa p 4 λ_ b6=>.store 1 b6 b4 (.rr [g h 0])) (.ib [g h 0,I 1] λb7=>.rn [b7]))) (.rx 0 [g h 0])) (lx 0 (λb8=>.rr [.tuple []]) λb8=>.rr [.tuple []])))
def Ê:GM cx 92 t92:=λ_=>AP
def aAe(p:Aa):IT:=
 .ca 179 [.int .i32 9,.int .i32 10] λa=>.ca 179 [.int .i32 12,.int .i32 13] λb=>.ca 179 [.int .i32 32,.int .i32 32] λc=>.op (.CC 1) [a,b,c] λd=>.ca 178 [d] λe=>.EG e [p] λf=>.rr [f]
def gT:GM cx 101 aAe:=λ_=>AP
def aD3(p:Aa):IT:=
 .op (.Wx true) [p,.ptr none] λa=>.A3 a (.Cj p 0 λ_ _ b=>.op (.Wx true) [b,.ptr none] λc=>.rr [c]) (.rr [ff])
def yQ:GM cx 102 aD3:=λ_=>AP
def aAf(p q:Aa):IT:=
 .ca 102 [p] λa=>.nt [a] λb=>.A3 b (.rr [.tuple [I 0,I 0]]) (.ie [q,I 0] λc=>.GK 100012 (.A3 c (.fa p 2 λ_ d=>.ca 121 [d] λe=>.ie [e,I 0] λf=>.A3 f (.Cj p 1 λ_ _ h=>.rr [q,h,I 0]) (.ca 180 [p] λj=>.op (.part 0 none) [j] λk=>.rn [k,I 0,I 0])) (.rn [q,I 0,I 0])) (nx (λm=>.ca 104 [p,g m 0] λn=>.cells 13 n λo=>.GK 200009 (.Cj p 15 λ_ _ s=>.A3 s (.ie [g o 0,I 4] λu=>.A3 u (.op (.C7 [I 0,I 0,S [],ff] [(1,1),(2,1)]) [g o 4,g o 5] λw=>.op (.CC 1) [S aWL,S aXi,S aXf,S aXj,S [116,114]] λy=>.ca 164 [w,y] λz=>.rn [z]) (.rn [ff])) (.rn [ff])) (nx (λa0=>.GK 100046 (.A3 (g a0 0) (.ca 181 [p] λa1=>.op (.ext 0) [a1] λa2=>.op (.ext 1) [a1] λa5=>.rn [a2,a5]) (.rn [g m 0,g m 2])) (nx (λa7=>.ca 104 [p,g a7 0] λa8=>.cells 13 a8 λb0=>.iq [g b0 11,I 0] λb1=>.A3 b1 (.rr [.tuple [g b0 11,I 0]]) (.rr [.tuple [g a7 0,g a7 1]])) λa7=>.rr [.tuple [g a7 0,g a7 1]])) λa0=>.rr [.tuple [g m 0,g m 2]])) λm=>.rr [.tuple [g m 1,g m 2]]))
def gU:F7 cx 103 aAf:=λ_ _=>AP
def aD4(p q:Aa):IT:=
 .Cj p 0 λ_ _ a=>.ca 13 [a,q] λb=>.op (.ext 0) [b] λc=>.op (.ext 1) [b] λ_=>.cells 13 c λd=>.cells 13 (a13 d) λe=>.rr [a13 e]
def yR:F7 cx 104 aD4:=λ_ _=>AP
def aD5(p q r:Aa):IT:=
 .op (.C7 [I 0,I 0,.slnil,I 0,I 0,S [],.slnil,S [],S [],S [],ff,I 0,I 0] [(0,1),(7,1)]) [I 6,r] λa=>.ca 108 [p,q,a] λb=>.op (.ext 0) [b] λc=>.op (.ext 1) [b] λd=>.rr [.tuple [c,d]]
def yS:SY cx 105 aD5:=λ_ _ _=>AP
def pz(p q r u:Aa):IT:=
 .cells 1 p λa=>.ca 104 [g a 0,r] λb=>.op (.part 0 none) [b] λc=>.ie [c,I 1] λd=>.A3 d (.ca 104 [g a 0,q] λe=>.op (.part 0 none) [e] λf=>.ie [f,I 4] λh=>.A3 h (.Cj (g a 0) 0 λ_ _ j=>.ca 12 [j,r] λk=>.ca 182 [k,.func (.func 183) [] [.B9 [g a 0]]] λm=>.A3 m (.rr [.tuple []]) (.ld (.B9 [g a 0]) λn=>.Cj n 0 λ_ _ o=>.ca 66 [o,r,q,u] λ_=>.rr [.tuple []])) (.Cj (g a 0) 0 λ_ _ s=>.ca 66 [s,r,q,u] λ_=>.rr [.tuple []])) (.Cj (g a 0) 0 λ_ _ w=>.ca 66 [w,r,q,u] λ_=>.rr [.tuple []])
def TO:Tq4 cx 106 pz:=λ_ _ _ _=>AP
def aD6(p q:Aa):IT:=
 .op (.CC 1) [q] λa=>.ca 25 [p,a] λb=>.iq [b,I 0] λc=>.A3 c (.rr [b]) (.ca 24 [p,q] λd=>.fa d 0 λ_ e=>.fl e 0 λ_ f=>.iq [f,I 1] λh=>.A3 h (.rr [I 9]) (.rr [I 0]))
def yT:F7 cx 107 aD6:=λ_ _=>AP
def aAg(p q r:Aa):IT:=
 .cells 13 r λa=>.ca 107 [p,q] λb=>.iq [b,I 0] λc=>.A3 c (.rr [.tuple [I 0,b]]) (.cells 1 q λd=>.ca 38 [p,.agg [g a 0,g a 1,g a 2,g d 0,g a 4,g a 5,g a 6,g a 7,g a 8,g a 9,g a 10,g a 11,g a 12]] λe=>.rr [.tuple [e,I 0]])
def gV:SY cx 108 aAg:=λ_ _ _=>AP
def aAh(p q:Aa):IT:=
 .ca 24 [p,q] λa=>.fa a 0 λ_ b=>.fl b 1 λ_ c=>.ie [c,I 0] λd=>.A3 d (.rr [.tuple []]) (.fa a 0 λ_ e=>.fl e 1 λ_ f=>.ca 24 [p,f] λh=>.fa h 0 λ_ j=>.fl j 2 λ_ k=>.ca 111 [k,q] λm=>.fa h 0 λ_ n=>.fl n 2 λ_ o=>.ia [m,I 1] λs=>.ca 185 [o,m,s] λu=>.fa h 0 λ_ w=>.op (.Gr 2) [w] λy=>.store 1 y u (.fa a 0 λ_ z=>.op (.Gr 1) [z] λa0=>.store 1 a0 i0 (.rr [.tuple []])))
def gW:F7 cx 110 aAh:=λ_ _=>AP
def aD7(p q:Aa):IT:=
 .ln [p] λa=>.loop 2 [I 0,I 0] (λb=>.il [g b 1,a] λc=>.A3 c (.ea 1 [p,g b 1] λd=>.ld d λe=>.ie [q,e] λf=>.A3 f (.rr [g b 1,g b 1]) (.ia [g b 1,I 1] λh=>.rn [g b 0,h])) (.rx 0 [g b 0,g b 1])) (lx 0 (λj=>.rr [I (-1)]) λj=>.rr [g j 0])
def yU:F7 cx 111 aD7:=λ_ _=>AP
def aD8(p q:Aa):IT:=
 .BH 188 [p] λa=>.BH 188 [q] λb=>.se [a,b] λc=>.rr [c]
def yV:F7 cx 113 aD8:=λ_ _=>AP
def aD9(p q:Aa):IT:=
 .fl q 3 λ_ a=>.lt [a] λb=>.lt [p] λc=>.ih [b,c] λd=>.A3 d (.fl q 3 λ_ e=>.lt [p] λf=>.op (.Rb 0 true false true) [e,f] λh=>.BH 113 [h,p] λj=>.rr [j]) (.rr [ff])
def yW:F7 cx 114 aD9:=λ_ _=>AP
def aEa(p q:Aa):IT:=
 .ca 189 [p,q] λa=>.ih [a,I 0] λb=>.rr [b]
def yX:F7 cx 115 aEa:=λ_ _=>AP
def aAi(p q:Aa):IT:=
 .ca 191 [q] λa=>.ca 190 [a,p] λb=>.rr [b]
def gX:F7 cx 116 aAi:=λ_ _=>AP
def aEb(p q r:Aa):IT:=
 .cells 12 q λa=>.ca 102 [p] λb=>.nt [b] λc=>.A3 c (.rr [I 0]) (.ca 192 [p,.func (.func 193) [p] [],GA a,r] λd=>.rr [d])
def yY:SY cx 117 aEb:=λ_ _ _=>AP
def aEc(p q:Aa):IT:=
 .op (.conv .u32) [q] λa=>.ik [a,.int .u32 127] λb=>.A3 b (.op (.conv .u8) [q] λc=>.op (.CC 1) [c] λd=>.GL 1 1 p d λe=>.rr [e]) (.ca 194 [p,q] λf=>.rr [f])
def yZ:F7 cx 118 aEc:=λ_ _=>AP
def aEd(p q r:Aa):IT:=
 .op (.CC 1) [q] λa=>.ca 25 [p,a] λb=>.iq [b,I 0] λc=>.A3 c (.rr [b]) (.ca 24 [p,q] λd=>.fa d 0 λ_ e=>.fl e 0 λ_ f=>.iq [f,I 5] λh=>.A3 h (.fa d 0 λ_ j=>.fl j 0 λ_ k=>.iq [k,I 6] λm=>.A3 m (.rr [I 9]) (.fa d 0 λ_ n=>.op (.Gr 7) [n] λo=>.store 1 o r (.rr [I 0]))) (.fa d 0 λ_ s=>.op (.Gr 7) [s] λu=>.store 1 u r (.rr [I 0])))
def zA:SY cx 119 aEd:=λ_ _ _=>AP
def aEe(p q r:Aa):IT:=
 .op (.C7 [I 0,I 0,.slnil,I 0,I 0,S [],.slnil,S [],S [],S [],ff,I 0,I 0] [(0,1),(7,1)]) [I 5,r] λa=>.ca 108 [p,q,a] λb=>.op (.ext 0) [b] λc=>.op (.ext 1) [b] λd=>.rr [.tuple [c,d]]
def zB:SY cx 120 aEe:=λ_ _ _=>AP
def aEf(p:Aa):IT:=
 .op (.Wx false) [p,.ptr none] λa=>.A3 a (.rr [I 0]) (.Cj p 0 λ_ _ b=>.ln [b] λc=>.rr [c])
def zC:GM cx 121 aEf:=λ_=>AP
def aEg(p:Aa):IT:=
 .ca 121 [p] λa=>.ib [a,I 1] λb=>.ca 163 [p,b] λc=>.cells 4 c λd=>.rr [a4 d]
def zD:GM cx 122 aEg:=λ_=>AP
def aEh(p q r:Aa):IT:=
 .cells 3 q λa=>.op (.Rb 3 false false true) [p,r] λb=>.op (.append 3 48) [.slnil,b] λc=>.op (.CC 3) [a3 a] λd=>.op (.append 3 48) [c,d] λe=>.op (.Rb 3 false true false) [p,r] λf=>.op (.append 3 48) [e,f] λh=>.rr [h]
def zE:SY cx 123 aEh:=λ_ _ _=>AP
def aEi(p q:Aa):IT:=
 .cells 1 q λa=>.ca 195 [p,.func (.func 196) [] [.B9 [g a 0]]] λb=>.rr [b]
def zF:F7 cx 124 aEi:=λ_ _=>AP
def aEj(p:Aa):IT:=
 .ca 168 [p,.func (.func 197) [] [],.func (.func 169) [] []] λa=>.rr [a]
def zG:GM cx 125 aEj:=λ_=>AP
def aEk(p q:Aa):IT:=
 .cells 4 q λa=>.op (.Wx true) [p,.ptr none] λb=>.A3 b (.Cj p 0 λ_ _ c=>.Cj p 0 λ_ _ d=>.ln [d] λe=>.ca 199 [c,a4 a,e] λf=>.fa p 0 λ_ h=>.store 1 h f (.rr [.tuple []])) (.rr [.tuple []])
def zH:F7 cx 126 aEk:=λ_ _=>AP
def t127(p q:Aa):IT:=
 .ca 151 [p,q] λa=>.il [a,I 1] λb=>.A3 b (.rr [ff]) (.Cj p 0 λ_ _ c=>.ca 200 [c,a] λd=>.fa p 0 λ_ e=>.store 1 e d (.rr [tt]))
def gY:F7 cx 127 t127:=λ_ _=>AP
def aEl(p q r:Aa):IT:=
 .ca 191 [q] λa=>.ln [a] λb=>.loop 1 [I 0] (λc=>.il [g c 0,b] λd=>.A3 d (.ea 1 [a,g c 0] λe=>.ld e λf=>.Ig p f r (.ia [g c 0,I 1] λh=>.rn [h])) (.rx 0 [g c 0])) (lx 0 (λj=>.rr [.tuple []]) λj=>.rr [.tuple []])
def zI:SY cx 128 aEl:=λ_ _ _=>AP
def aEm(p:Aa):IT:=
 .Cj p 0 λ_ _ a=>.fa p 1 λ_ b=>.load (some 12) b λc=>.ca 48 [a,c] λd=>.rr [d]
def zJ:GM cx 129 aEm:=λ_=>AP
def aEn(p:Aa):IT:=
 .cells 1 p λa=>.rr [.func (.func 201) [] [.B9 [g a 0]]]
def zK:GM cx 130 aEn:=λ_=>AP
def aEo(p:Aa):IT:=
 .Cj p 0 λ_ _ a=>.ca 202 [a] λ_=>.Cj p 0 λ_ _ b=>.fa p 1 λ_ c=>.load (some 12) c λd=>.ca 70 [b,d] λ_=>.rr [.tuple []]
def zL:GM cx 131 aEo:=λ_=>AP
def Ë(p:Aa):IT:=
 .Cj p 0 λ_ _ a=>.ca 202 [a] λ_=>.Cj p 0 λ_ _ b=>.ca 180 [b] λc=>.cells 4 c λd=>.ie [g d 1,I 1] λe=>.A3 e (.BH 203 [g d 2] λf=>.A3 f (.Cj p 0 λ_ _ h=>.fa h 2 λ_ j=>.ca 76 [j] λ_=>.Cj p 0 λ_ _ k=>.fa p 1 λ_ m=>.load (some 12) m λn=>.ca 70 [k,n] λ_=>.rr [.tuple []]) (.Cj p 0 λ_ _ o=>.fa p 1 λ_ s=>.load (some 12) s λu=>.ca 70 [o,u] λ_=>.rr [.tuple []])) (.Cj p 0 λ_ _ w=>.fa p 1 λ_ y=>.load (some 12) y λz=>.ca 70 [w,z] λ_=>.rr [.tuple []])
def WO:GM cx 132 Ë:=λ_=>AP
def aEp(p:Aa):IT:=
 .ca 131 [p] λ_=>.Cj p 0 λ_ _ a=>.fa a 17 λ_ b=>.store 1 b tt (.Cj p 0 λ_ _ c=>.fa c 14 λ_ d=>.store 1 d ff (.rr [.tuple []]))
def zM:GM cx 133 aEp:=λ_=>AP
def aEq(p:Aa):IT:=
 .Cj p 0 λ_ _ a=>.ca 84 [a] λ_=>.Cj p 0 λ_ _ b=>.fa p 1 λ_ c=>.load (some 12) c λd=>.ca 204 [b,d] λ_=>.rr [.tuple []]
def zN:GM cx 134 aEq:=λ_=>AP
def aEr(p:Aa):IT:=
 .Cj p 0 λ_ _ a=>.ca 84 [a] λ_=>.Cj p 0 λ_ _ b=>.fa p 1 λ_ c=>.load (some 12) c λd=>.ca 70 [b,d] λ_=>.Cj p 0 λ_ _ e=>.fa e 3 λ_ f=>.ca 77 [f] λ_=>.Cj p 0 λ_ _ h=>.fa h 14 λ_ j=>.store 1 j ff (.rr [.tuple []])
def zO:GM cx 135 aEr:=λ_=>AP
def Z9(p:Aa):IT:=
 .Cj p 0 λ_ _ a=>.Cj a 14 λ_ _ b=>.fa p 1 λ_ c=>.fl c 1 λ_ d=>.se [d,S [104,114]] λe=>.A3 e (.Cj p 0 λ_ _ f=>.ca 202 [f] λ_=>.Cj p 0 λ_ _ h=>.fa p 1 λ_ j=>.load (some 12) j λk=>.ca 73 [h,k] λ_=>.Cj p 0 λ_ _ m=>.fa m 14 λ_ n=>.store 1 n ff (.rr [.tuple []])) (.se [d,S aX6] λo=>.A3 o (.Cj p 0 λ_ _ s=>.fa p 1 λ_ u=>.load (some 12) u λw=>.ca 73 [s,w] λ_=>.Cj p 0 λ_ _ y=>.fa y 14 λ_ z=>.store 1 z b (.rr [.tuple []])) (.se [d,S aXO] λa0=>.A3 a0 (.Cj p 0 λ_ _ a1=>.fa p 1 λ_ a2=>.load (some 12) a2 λa5=>.ca 73 [a1,a5] λ_=>.Cj p 0 λ_ _ a7=>.fa a7 14 λ_ a8=>.store 1 a8 b (.rr [.tuple []])) (.se [d,S aX7] λb0=>.A3 b0 (.Cj p 0 λ_ _ b1=>.fa p 1 λ_ b2=>.load (some 12) b2 λb3=>.ca 73 [b1,b3] λ_=>.Cj p 0 λ_ _ b4=>.fa b4 14 λ_ b5=>.store 1 b5 b (.rr [.tuple []])) (.se [d,S aXW] λb6=>.A3 b6 (.Cj p 0 λ_ _ b7=>.ca 84 [b7] λ_=>.A3 b (.fa p 1 λ_ b8=>.load (some 12) b8 λb9=>.ca 205 [b9] λc0=>.Cj p 0 λ_ _ c1=>.fa p 1 λ_ c2=>.load (some 12) c2 λc3=>.ca 73 [c1,c3] λ_=>.Cj p 0 λ_ _ c4=>.fa c4 14 λ_ c5=>.store 1 c5 c0 (.rr [.tuple []])) (.Cj p 0 λ_ _ c6=>.fa p 1 λ_ c7=>.load (some 12) c7 λc8=>.ca 73 [c6,c8] λ_=>.Cj p 0 λ_ _ c9=>.fa c9 14 λ_ d0=>.store 1 d0 ff (.rr [.tuple []]))) (.se [d,S aX1] λd1=>.A3 d1 (.fa p 1 λ_ d2=>.op (.Gr 1) [d2] λd3=>.store 1 d3 (S aYd) (.Cj p 0 λ_ _ d4=>.ca 84 [d4] λ_=>.Cj p 0 λ_ _ d5=>.fa p 1 λ_ d6=>.load (some 12) d6 λd7=>.ca 73 [d5,d7] λ_=>.Cj p 0 λ_ _ d8=>.fa d8 14 λ_ d9=>.store 1 d9 ff (.rr [.tuple []]))) (.Cj p 0 λ_ _ e0=>.ca 84 [e0] λ_=>.Cj p 0 λ_ _ e1=>.fa p 1 λ_ e2=>.load (some 12) e2 λe3=>.ca 73 [e1,e3] λ_=>.Cj p 0 λ_ _ e4=>.fa e4 14 λ_ e5=>.store 1 e5 ff (.rr [.tuple []])))))))
def MO:GM cx 136 Z9:=λ_=>AP
def aEs(p:Aa):IT:=
 .rr [ff]
def zP:GM cx 137 aEs:=λ_=>AP
def uG(p:Aa):IT:=
 .fa p 1 λ_ a=>.fl a 1 λ_ b=>.se [b,S aW8] λc=>.A3 c (.ca 131 [p] λ_=>.Cj p 0 λ_ _ d=>.fa d 18 λ_ e=>.store 1 e (I 5) (.rr [.tuple []])) (.se [b,S aXp] λf=>.A3 f (.Cj p 0 λ_ _ h=>.fa p 1 λ_ j=>.load (some 12) j λk=>.ca 74 [h,k,I 2] λ_=>.Cj p 0 λ_ _ m=>.fa m 17 λ_ n=>.store 1 n tt (.Cj p 0 λ_ _ o=>.fa o 14 λ_ s=>.store 1 s ff (.rr [.tuple []]))) (.se [b,S aYe] λu=>.A3 u (.Cj p 0 λ_ _ w=>.ca 202 [w] λ_=>.Cj p 0 λ_ _ y=>.ca 84 [y] λ_=>.Cj p 0 λ_ _ z=>.fa z 14 λ_ a0=>.store 1 a0 ff (.Cj p 0 λ_ _ a1=>.fa p 1 λ_ a2=>.load (some 12) a2 λa5=>.ca 74 [a1,a5,I 3] λ_=>.rr [.tuple []])) (.se [b,S aXC] λa7=>.A3 a7 (.Cj p 0 λ_ _ a8=>.fa a8 14 λ_ b0=>.store 1 b0 ff (.Cj p 0 λ_ _ b1=>.fa p 1 λ_ b2=>.load (some 12) b2 λb3=>.ca 74 [b1,b3,I 3] λ_=>.rr [.tuple []])) (.Cj p 0 λ_ _ b4=>.fa p 1 λ_ b5=>.load (some 12) b5 λb6=>.ca 74 [b4,b6,I 3] λ_=>.rr [.tuple []]))))
def Rw:GM cx 138 uG:=λ_=>AP
def p_(p:Aa):IT:=
 .ca 206 [p,S aXF] λa=>.A3 a (.fa p 1 λ_ b=>.fl b 1 λ_ c=>.se [c,S [114,112]] λd=>.A3 d (.Cj p 0 λ_ _ e=>.fa e 2 λ_ f=>.ca 165 [f,S aXM] λ_=>.Cj p 0 λ_ _ h=>.fa p 1 λ_ j=>.load (some 12) j λk=>.ca 70 [h,k] λ_=>.rr [.tuple []]) (.fa p 1 λ_ m=>.fl m 1 λ_ n=>.se [n,S [114,116]] λo=>.A3 o (.Cj p 0 λ_ _ s=>.fa s 2 λ_ u=>.ca 165 [u,S aXM] λ_=>.Cj p 0 λ_ _ w=>.fa p 1 λ_ y=>.load (some 12) y λz=>.ca 70 [w,z] λ_=>.rr [.tuple []]) (.Cj p 0 λ_ _ a0=>.fa a0 2 λ_ a1=>.ca 165 [a1,S []] λ_=>.Cj p 0 λ_ _ a2=>.fa p 1 λ_ a5=>.load (some 12) a5 λa7=>.ca 70 [a2,a7] λ_=>.rr [.tuple []]))) (.Cj p 0 λ_ _ a8=>.fa p 1 λ_ b0=>.load (some 12) b0 λb1=>.ca 70 [a8,b1] λ_=>.rr [.tuple []])
def TP:GM cx 139 p_:=λ_=>AP
def qa(p:Aa):IT:=
 .fa p 1 λ_ a=>.fl a 1 λ_ b=>.se [b,S aXn] λc=>.A3 c (.Cj p 0 λ_ _ d=>.ca 84 [d] λ_=>.Cj p 0 λ_ _ e=>.fa p 1 λ_ f=>.load (some 12) f λh=>.ca 117 [e,h,I 3] λ_=>.fa p 1 λ_ j=>.fl j 9 λ_ k=>.A3 k (.Cj p 0 λ_ _ m=>.fa m 2 λ_ n=>.ca 76 [n] λ_=>.rr [.tuple []]) (.rr [.tuple []])) (.Cj p 0 λ_ _ o=>.ca 84 [o] λ_=>.Cj p 0 λ_ _ s=>.fa p 1 λ_ u=>.load (some 12) u λw=>.ca 117 [s,w,I 2] λ_=>.fa p 1 λ_ y=>.fl y 9 λ_ z=>.A3 z (.Cj p 0 λ_ _ a0=>.fa a0 2 λ_ a1=>.ca 76 [a1] λ_=>.rr [.tuple []]) (.rr [.tuple []]))
def TQ:GM cx 140 qa:=λ_=>AP
end Go.Am
