/- Lemmas -/
import Derived.Test.YtjjnhgoknielgaaGreatDoorW9
import Derived.Test.YtjjnhgoknielgaaGreatDoorW17
set_option linter.all false
namespace Go.Am
open Go
def t63(p q r:Ab):IT:=
 .ca 107 [p,q] λa=>.iq [a,I 0] λb=>.A0 b (.rr [a]) (.ca 24 [p,q] λc=>.fa c 0 λ_ d=>.op (.GC 10) [d] λe=>.store 1 e r (.rr [I 0]))
def ð:Tf cx 63 t63:=λ_ _ _=>AT
def t64(p q:Ab):IT:=
 .fa p 4 λ_ a=>.store 1 a q (.rr [tt])
def vY:Gi cx 64 t64:=λ_ _=>AT
def t65(p q r u w:Ab):IT:=
 .op (.Dc [I 0,I 0,.slnil,I 0,I 0,S [],.slnil,S [],S [],S [],ff,I 0,I 0] [(0,1),(5,1),(8,1),(9,1)]) [I 3,r,u,w] λa=>.ca 108 [p,q,a] λb=>.op (.ext 0) [b] λc=>.op (.ext 1) [b] λd=>.rr [.tuple [c,d]]
def ñ:Tq5 cx 65 t65:=λ_ _ _ _ _=>AT
def t66(p q r u:Ab):IT:=
 .op (.Cb 1) [q,r] λa=>.ca 25 [p,a] λb=>.iq [b,I 0] λc=>.A0 c (.rr [b]) (.GY 200004 (.iq [u,I 0] λd=>.A0 d (.ca 22 [p,u] λe=>.nt [e] λf=>.rn [f]) (.rn [ff])) (nx (λh=>.A0 (g h 0) (.rr [I 3]) (.ca 24 [p,q] λj=>.ca 24 [p,r] λk=>.GY 200007 (.fa j 0 λ_ m=>.fl m 0 λ_ n=>.iq [n,I 1] λo=>.A0 o (.fa j 0 λ_ s=>.fl s 0 λ_ w=>.iq [w,I 2] λy=>.A0 y (.fa j 0 λ_ z=>.fl z 0 λ_ a0=>.iq [a0,I 4] λa1=>.rn [a1]) (.rn [ff])) (.rn [ff])) (λx a2=>match x with| .normal=>.A0 (g a2 0) (.rr [I 4]) (.fa k 0 λ_ a5=>.fl a5 0 λ_ a7=>.ie [a7,I 1] λa8=>.A0 a8 (.rr [I 4]) (.fa k 0 λ_ b0=>.fl b0 0 λ_ b1=>.ie [b1,I 2] λb2=>.A0 b2 (.rr [I 4]) (.ca 109 [p,r,q] λb3=>.A0 b3 (.rr [I 4]) (.GY 200012 (.iq [u,I 0] λb4=>.A0 b4 (.ie [u,r] λb5=>.A0 b5 (.rn [tt]) (.ca 24 [p,u] λb6=>.fa b6 0 λ_ b7=>.fl b7 1 λ_ b8=>.iq [b8,q] λb9=>.rn [b9])) (.rn [ff])) (λx c0=>match x with| .normal=>.A0 (g c0 0) (.rr [I 5]) (.ca 110 [p,r] λ_=>.fa j 0 λ_ c1=>.fl c1 2 λ_ c2=>.ln [c2] λc3=>.iq [u,I 0] λc4=>.GY 100103 (.A0 c4 (.fa j 0 λ_ c5=>.fl c5 2 λ_ c7=>.ca 111 [c7,u] λc8=>.rn [c8]) (.rn [c3])) (nx (λc9=>.fa j 0 λ_ d0=>.fl d0 2 λ_ d1=>.op (.Cb 1) [r] λd2=>.mem .oz [d1,g c9 0,d2] λd3=>.fa j 0 λ_ d4=>.op (.GC 2) [d4] λd5=>.store 1 d5 d3 (.fa k 0 λ_ d6=>.op (.GC 1) [d6] λd7=>.store 1 d7 q (.rr [I 0]))) λc9=>.rr [I 0]))| .exit i=>if i=0 then .ca 110 [p,r] λ_=>.fa j 0 λ_ d8=>.fl d8 2 λ_ d9=>.ln [d9] λe0=>.iq [u,I 0] λe1=>.GY 100103 (.A0 e1 (.fa j 0 λ_ e2=>.fl e2 2 λ_ e3=>.ca 111 [e3,u] λe4=>.rn [e4]) (.rn [e0])) (nx (λe5=>.fa j 0 λ_ e6=>.fl e6 2 λ_ e7=>.op (.Cb 1) [r] λe8=>.mem .oz [e7,g e5 0,e8] λe9=>.fa j 0 λ_ f0=>.op (.GC 2) [f0] λf1=>.store 1 f1 e9 (.fa k 0 λ_ f2=>.op (.GC 1) [f2] λf3=>.store 1 f3 q (.rr [I 0]))) λe5=>.rr [I 0]) else .fail| .ret=>.rr [I 0])))))| .exit i=>if i=0 then .ca 110 [p,r] λ_=>.fa j 0 λ_ f4=>.fl f4 2 λ_ f5=>.ln [f5] λf6=>.iq [u,I 0] λf7=>.GY 100103 (.A0 f7 (.fa j 0 λ_ f8=>.fl f8 2 λ_ f9=>.ca 111 [f9,u] λh0=>.rn [h0]) (.rn [f6])) (nx (λh1=>.fa j 0 λ_ h2=>.fl h2 2 λ_ h3=>.op (.Cb 1) [r] λh4=>.mem .oz [h3,g h1 0,h4] λh5=>.fa j 0 λ_ h6=>.op (.GC 2) [h6] λh7=>.store 1 h7 h5 (.fa k 0 λ_ h8=>.op (.GC 1) [h8] λh9=>.store 1 h9 q (.rr [I 0]))) λh1=>.rr [I 0]) else .fail| .ret=>.rr [I 0]))) λh=>.rr [I 0]))
def Q2:Tq4 cx 66 t66:=λ_ _ _ _=>AT
def t67(p:Ab):IT:=
 .cells 12 p λa=>.iq [g a 0,I 1] λb=>.A0 b (.rr [ff]) (.A0 (g a 7) (.rr [tt]) (.nt [g a 2] λc=>.A0 c (.rr [tt]) (.op (.str .neq) [g a 1,S aXM] λd=>.A0 d (.rr [tt]) (.nt [g a 4] λe=>.A0 e (.rr [ff]) (.op (.Cb 1) [S aYl,S aYn,S [72,84,77,76]] λf=>.ln [f] λh=>.loop 8 [ff,I 0] (λj=>.il [g j 1,h] λk=>.A0 k (.ea 1 [f,g j 1] λm=>.ld m λn=>.Bz 113 [g a 3,n] λo=>.A0 o (.rr [tt,g j 1]) (.ia [g j 1,I 1] λs=>.rn [g j 0,s])) (.rx 0 [g j 0,g j 1])) (lx 0 (λu=>.fl (.Cd [g a 0,g a 1,g a 2,g a 3,g a 4,g a 5,g a 6,g a 7,g a 8,g a 9,g a 10,g a 11]) 6 λ_ w=>.nt [w] λy=>.A0 y (.EJ (.func (.func 114) [] [.Cd [g a 0,g a 1,g a 2,g a 3,g a 4,g a 5,g a 6,g a 7,g a 8,g a 9,g a 10,g a 11]]) [S aYs] λz=>.A0 z (.rr [tt]) (.EJ (.func (.func 114) [] [.Cd [g a 0,g a 1,g a 2,g a 3,g a 4,g a 5,g a 6,g a 7,g a 8,g a 9,g a 10,g a 11]]) [S aYg] λa0=>.A0 a0 (.rr [tt]) (.op (.Cb 1) [S aYw,S aYo,S aYD,S aYh,S aYi,S aYE,S aYa,S aYA,S aX9,S aX3,S aXX,S aXZ,S aYx,S aYk] λa1=>.ca 115 [a1,.func (.func 114) [] [.Cd [g a 0,g a 1,g a 2,g a 3,g a 4,g a 5,g a 6,g a 7,g a 8,g a 9,g a 10,g a 11]]] λa2=>.rr [a2]))) (.op (.Cb 1) [S aYw,S aYo,S aYD,S aYh,S aYi,S aYE,S aYa,S aYA,S aX9,S aX3,S aXX,S aXZ,S aYx,S aYk] λa5=>.ca 115 [a5,.func (.func 114) [] [.Cd [g a 0,g a 1,g a 2,g a 3,g a 4,g a 5,g a 6,g a 7,g a 8,g a 9,g a 10,g a 11]]] λa7=>.rr [a7])) λu=>.rr [g u 0]))))))
def ò:GL cx 67 t67:=λ_=>AT
def t68(p q:Ab):IT:=
 .cells 12 p λa=>.ie [g a 0,I 3] λb=>.A0 b (.Bz 116 [g a 1,q] λc=>.nt [c] λd=>.rr [d]) (.rr [ff])
def ó:Gi cx 68 t68:=λ_ _=>AT
def t69(p q:Ab):IT:=
 .cells 12 p λa=>.ie [g a 0,I 2] λb=>.A0 b (.Bz 116 [g a 1,q] λc=>.rr [c]) (.rr [ff])
def ô:Gi cx 69 t69:=λ_ _=>AT
def t70(p q:Ab):IT:=
 .cells 12 q λa=>.ca 117 [p,GM a,I 1] λb=>.rr [b]
def õ:Gi cx 70 t70:=λ_ _=>AT
def t71(p:Ab):IT:=
 .op (.Dc [I 0,S [],ff,S [],ff,S [],ff,ff,.slnil,ff,S [],.int .i32 0] [(0,1),(1,1)]) [I 2,p] λa=>.cells 12 a λb=>.rr [GM b]
def ö:GL cx 71 t71:=λ_=>AT
def t72(p q:Ab):IT:=
 .ca 102 [p] λa=>.nt [a] λb=>.A0 b (.rr [.tuple []]) (.ca 103 [p,I 0] λc=>.op (.ext 0) [c] λd=>.op (.ext 1) [c] λe=>.ca 104 [p,d] λf=>.cells 13 f λh=>.GY 200003 (.iq [g h 0,I 4] λj=>.A0 j (.iq [g h 0,I 2] λk=>.rn [k]) (.rn [ff])) (nx (λm=>.A0 (g m 0) (.rr [.tuple []]) (.ln [g h 2] λn=>.iq [e,I 0] λo=>.GY 100035 (.A0 o (.ca 111 [g h 2,e] λs=>.rn [s]) (.rn [n])) (nx (λu=>.ca 118 [.slnil,q] λw=>.UF w λy=>.op .XD [y] λz=>.ig [g u 0,I 0] λa0=>.GY 100044 (.A0 a0 (.ib [g u 0,I 1] λa1=>.ea 1 [g h 2,a1] λa2=>.ld a2 λa5=>.ca 104 [p,a5] λa7=>.cells 13 a7 λa8=>.ie [g a8 0,I 5] λb0=>.A0 b0 (.Ck p 0 λ_ _ b1=>.ib [g u 0,I 1] λb2=>.ea 1 [g h 2,b2] λb3=>.ld b3 λb4=>.op (.str .add) [g a8 7,z] λb5=>.ca 119 [b1,b4,b5] λ_=>.rr []) (.rn [])) (.rn [])) (nx (λb6=>.Ck p 0 λ_ _ b7=>.ca 120 [b7,g h 3,z] λb8=>.op (.ext 0) [b8] λb9=>.op (.ext 1) [b8] λc0=>.ie [c0,I 0] λc1=>.GY 100083 (.A0 c1 (.ca 106 [p,b9,d,e] λ_=>.rn []) (.rn [])) (nx (λc2=>.rr [.tuple []]) λc2=>.rr [.tuple []])) λb6=>.rr [.tuple []])) λu=>.rr [.tuple []]))) λm=>.rr [.tuple []]))
def Y5:Gi cx 72 t72:=λ_ _=>AT
def t73(p q:Ab):IT:=
 .cells 12 q λa=>.ca 70 [p,GM a] λ_=>.fa p 2 λ_ b=>.ca 76 [b] λ_=>.rr [.tuple []]
def ø:Gi cx 73 t73:=λ_ _=>AT
def t74(p q r:Ab):IT:=
 .cells 12 q λa=>.ca 102 [p] λb=>.A0 b (.ca 70 [p,GM a] λ_=>.Ck p 4 λ_ _ c=>.fa p 18 λ_ d=>.store 1 d r (.fa p 5 λ_ e=>.store 1 e c (.fa p 4 λ_ f=>.store 1 f (I 8) (.rr [.tuple []])))) (.rr [.tuple []])
def ù:Tf cx 74 t74:=λ_ _ _=>AT
def t75(p q:Ab):IT:=
 .cells 12 p λa=>.ie [g a 0,I 3] λb=>.A0 b (.Bz 116 [g a 1,q] λc=>.rr [c]) (.rr [ff])
def ú:Gi cx 75 t75:=λ_ _=>AT
def t76(p:Ab):IT:=
 .ca 121 [p] λa=>.il [a,I 2] λb=>.A0 b (.op (.Dc [I 0,I 0,S [],ff] []) [] λc=>.cells 4 c λd=>.rr [a4 d]) (.ca 122 [p] λe=>.cells 4 e λf=>.Ck p 0 λ_ _ h=>.Ck p 0 λ_ _ j=>.ln [j] λk=>.ib [k,I 1] λm=>.op (.Ro 4 false false true) [h,m] λn=>.fa p 0 λ_ o=>.store 1 o n (.cells 4 (a4 f) λs=>.rr [a4 s]))
def iR:GL cx 76 t76:=λ_=>AT
def t77(p:Ab):IT:=
 .op (.WN true) [p,.ptr none] λa=>.A0 a (.Ck p 0 λ_ _ b=>.op (.Dc [I 0,S [],.slnil] []) [] λc=>.Ck p 0 λ_ _ d=>.ln [d] λe=>.ca 123 [b,c,e] λf=>.fa p 0 λ_ h=>.store 1 h f (.rr [.tuple []])) (.rr [.tuple []])
def û:GL cx 77 t77:=λ_=>AT
def t78(p:Ab):IT:=
 .op (.Gs false .sl) [p,.slnil] λa=>.A0 a (.rr [.slnil]) (.op (.Cb 1) [] λb=>.op (.append 1 8) [b,p] λc=>.rr [c])
def vZ:GL cx 78 t78:=λ_=>AT
def t79(p:Ab):IT:=
 .ca 102 [p] λa=>.nt [a] λb=>.A0 b (.rr [.tuple []]) (.fa p 2 λ_ c=>.ca 124 [c,S aXP] λd=>.il [d,I 0] λe=>.A0 e (.rr [.tuple []]) (.fa p 2 λ_ f=>.ca 125 [f] λ_=>.fa p 2 λ_ h=>.op (.Cb 1) [S aXP] λj=>.ca 89 [h,j] λ_=>.fa p 3 λ_ k=>.ca 90 [k] λ_=>.Ck p 6 λ_ _ m=>.ln [m] λn=>.ig [n,I 0] λo=>.A0 o (.Ck p 6 λ_ _ s=>.ib [n,I 1] λu=>.op (.Ro 1 false false true) [s,u] λw=>.ca 78 [w] λy=>.fa p 6 λ_ z=>.store 1 z y (.ca 92 [p] λ_=>.rr [.tuple []])) (.ca 92 [p] λ_=>.rr [.tuple []])))
def iS:GL cx 79 t79:=λ_=>AT
def t80(p q r:Ab):IT:=
 .cells 12 q λa=>.Ck p 7 λ_ _ b=>.fa p 2 λ_ c=>.op (.Dc [I 0,I 0,S [],ff] [(0,1),(1,1),(2,1)]) [b,I 1,S aXR] λd=>.ca 126 [c,d] λ_=>.EJ r [p,GM a] λe=>.fa p 2 λ_ f=>.ca 127 [f,b] λ_=>.rr [e]
def ü:Tf cx 80 t80:=λ_ _ _=>AT
def t81(p:Ab):IT:=
 .fa p 1 λ_ a=>.fl a 11 λ_ b=>.ie [b,.int .i32 0] λc=>.A0 c (.rr [.tuple []]) (.Ck p 0 λ_ _ d=>.ca 84 [d] λ_=>.Ck p 0 λ_ _ e=>.fa p 1 λ_ f=>.fl f 11 λ_ h=>.ca 72 [e,h] λ_=>.fa p 1 λ_ j=>.load (some 12) j λk=>.ca 61 [k] λm=>.nt [m] λn=>.A0 n (.Ck p 0 λ_ _ o=>.fa o 14 λ_ s=>.store 1 s ff (.rr [.tuple []])) (.rr [.tuple []]))
def iT:GL cx 81 t81:=λ_=>AT
def t82(p:Ab):IT:=
 .ca 102 [p] λa=>.A0 a (.fa p 19 λ_ b=>.store 1 b tt (.rr [.tuple []])) (.rr [.tuple []])
def ý:GL cx 82 t82:=λ_=>AT
def t83:IT:=
 .Oy λa=>.ca 128 [a,S aXN,.func (.func 129) [] []] λ_=>.ca 130 [.func (.func 131) [] []] λb=>.ca 128 [a,S aXO,b] λ_=>.ca 130 [.func (.func 132) [] []] λc=>.ca 128 [a,S aX1,c] λ_=>.ca 130 [.func (.func 133) [] []] λd=>.ca 128 [a,S aZb,d] λ_=>.ca 130 [.func (.func 134) [] []] λe=>.ca 128 [a,S aX2,e] λ_=>.ca 130 [.func (.func 135) [] []] λf=>.ca 128 [a,S aX6,f] λ_=>.ca 130 [.func (.func 136) [] []] λh=>.ca 128 [a,S aXT,h] λ_=>.ca 128 [a,S aXU,.func (.func 137) [] []] λ_=>.ca 130 [.func (.func 138) [] []] λj=>.ca 128 [a,S aYb,j] λ_=>.ca 130 [.func (.func 139) [] []] λk=>.ca 128 [a,S aZc,k] λ_=>.ca 130 [.func (.func 140) [] []] λm=>.ca 128 [a,S aZB,m] λ_=>.ca 130 [.func (.func 141) [] []] λn=>.ca 128 [a,S aZC,n] λ_=>.ca 130 [.func (.func 142) [] []] λo=>.ca 128 [a,S aYU,o] λ_=>.ca 130 [.func (.func 143) [] []] λs=>.ca 128 [a,S aZu,s] λ_=>.ca 130 [.func (.func 144) [] []] λu=>.ca 130 [.func (.func 145) [] []] λw=>.ca 130 [.func (.func 146) [] []] λy=>.mem (.XB .nilFunc) [a,S aXV] λz=>.op (.ext 1) [z] λa0=>.mem .Lo [a,a0,u] λ_=>.Iw a (S aYd) w (.Iw a (S aXQ) y (.ca 130 [.func (.func 147) [] []] λa1=>.ca 130 [.func (.func 148) [] []] λa2=>.ca 130 [.func (.func 149) [] []] λa5=>.ca 130 [.func (.func 150) [] []] λa7=>.mem (.XB .nilFunc) [a,S [97]] λa8=>.op (.ext 1) [a8] λb0=>.mem .Lo [a,b0,a1] λ_=>.Iw a (S aYc) a2 (.Iw a (S aX4) a5 (.Iw a (S aYp) a7 (.rr [a])))))
def þ:Cf cx 83 []=t83:=AT
def t84(p:Ab):IT:=
 .ca 102 [p] λa=>.nt [a] λb=>.A0 b (.Ja 3 p (.rr [.tuple []])) (.fa p 3 λ_ c=>.fl c 0 λ_ d=>.ln [d] λe=>.loop 2 [e] (λf=>.ig [g f 0,I 0] λh=>.A0 h (.fa p 3 λ_ j=>.fl j 0 λ_ k=>.ib [g f 0,I 1] λm=>.ea 3 [k,m] λn=>.fl n 0 λ_ o=>.iq [o,I 0] λs=>.A0 s (.fa p 2 λ_ u=>.fa p 3 λ_ w=>.fl w 0 λ_ y=>.ib [g f 0,I 1] λz=>.ea 3 [y,z] λa0=>.fl a0 0 λ_ a1=>.ca 151 [u,a1] λa2=>.il [a2,I 0] λa5=>.A0 a5 (.ib [g f 0,I 1] λa7=>.rn [a7]) (.rx 0 [g f 0])) (.rx 0 [g f 0])) (.rx 0 [g f 0])) (lx 0 (λa8=>.fa p 3 λ_ b0=>.fl b0 0 λ_ b1=>.ca 152 [b1] λb2=>.fa p 3 λ_ b3=>.op (.GC 0) [b3] λb4=>.store 1 b4 b2 (.loop 5 [g a8 0] (λb5=>.fa p 3 λ_ b6=>.fl b6 0 λ_ b7=>.ln [b7] λb8=>.il [g b5 0,b8] λb9=>.A0 b9 (.fa p 3 λ_ c0=>.fl c0 0 λc1 c2=>.fa p 3 λ_ c3=>.fl c3 0 λ_ c4=>.ea 3 [c4,g b5 0] λc5=>.load (some 3) c5 λc6=>.ca 153 [c6] λc8=>.ld c1 λc9=>.same c2 c9 (.ca 70 [p,c8] λd0=>.ld c1 λd1=>.same c2 d1 (.ea 3 [c2,g b5 0] λd2=>.op (.GC 0) [d2] λd3=>.store 1 d3 d0 (.ia [g b5 0,I 1] λd4=>.rn [d4])))) (.rx 2 [g b5 0])) (lx 2 (λd5=>.Ja 3 p (.rr [.tuple []])) λd5=>.Ja 3 p (.rr [.tuple []])))) λa8=>.Ja 3 p (.rr [.tuple []])))
def ÿ:GL cx 84 t84:=λ_=>AT
def t85:IT:=
 .Oy λa=>.Iw a (S aXP) (.func (.func 129) [] []) (.Iw a (S aXS) (.func (.func 154) [] []) (.Iw a (S aXM) (.func (.func 154) [] []) (.ca 130 [.func (.func 155) [] []] λb=>.ca 128 [a,S aXL,b] λ_=>.ca 130 [.func (.func 156) [] []] λc=>.ca 128 [a,S aXW,c] λ_=>.ca 130 [.func (.func 158) [] []] λd=>.ca 128 [a,S aX1,d] λ_=>.ca 130 [.func (.func 159) [] []] λe=>.ca 128 [a,S aX6,e] λ_=>.ca 130 [.func (.func 160) [] []] λf=>.ca 128 [a,S aZo,f] λ_=>.ca 130 [.func (.func 161) [] []] λh=>.Iw a (S aYd) h (.ca 130 [.func (.func 162) [] []] λj=>.Iw a (S [98,114]) j (.rr [a])))))
def Ā:Cf cx 85 []=t85:=AT
def t86(p q:Ab):IT:=
 .ca 102 [p] λa=>.nt [a] λb=>.A0 b (.rr [.tuple []]) (.fa p 2 λ_ c=>.ca 121 [c] λd=>.ib [d,I 1] λe=>.loop 2 [e] (λf=>.ih [g f 0,I 0] λh=>.A0 h (.fa p 2 λ_ j=>.ca 163 [j,g f 0] λk=>.cells 4 k λm=>.op (.Cb 1) [q] λn=>.ca 164 [a4 m,n] λo=>.A0 o (.fa p 2 λ_ s=>.ca 165 [s,q] λ_=>.fa p 2 λ_ u=>.ca 166 [u,g m 0] λ_=>.rr [g f 0]) (.Bz 167 [g m 1,g m 2] λw=>.A0 w (.rr [g f 0]) (.ib [g f 0,I 1] λy=>.rn [y]))) (.rx 0 [g f 0])) (lx 0 (λz=>.rr [.tuple []]) λz=>.rr [.tuple []]))
def ā:Gi cx 86 t86:=λ_ _=>AT
def t87(p q:Ab):IT:=
 .ca 100091 [p] λ_=>.Ck p 6 λ_ _ a=>.op (.Cb 1) [q] λb=>.GZ 1 8 a b λc=>.fa p 6 λ_ d=>.store 1 d c (.ca 64 [p,q] λe=>.Ja 6 p (.rr [e]))
def Ă:Gi cx 87 t87:=λ_ _=>AT
def t88(p:Ab):IT:=
 .fa p 2 λ_ a=>.ca 124 [a,S aXP] λb=>.ih [b,I 0] λc=>.rr [c]
def ă:GL cx 88 t88:=λ_=>AT
def t89(p q:Ab):IT:=
 .cells 1 q λa=>.ca 168 [p,.func (.func 169) [] [],.func (.func 170) [] [.Cd [g a 0]]] λb=>.rr [b]
def Ą:Gi cx 89 t89:=λ_ _=>AT
def t90(p:Ab):IT:=
 .op (.WN false) [p,.ptr none] λa=>.A0 a (.rr [I 0]) (.Ck p 0 λ_ _ b=>.ln [b] λc=>.Ck p 0 λ_ d e=>.ca 172 [p] λf=>.ld d λh=>.same e h (.ib [f,I 1] λj=>.op (.MA true) [j,I 0] λk=>.op (.Ro 3 false false true) [e,k] λm=>.fa p 0 λ_ n=>.store 1 n m (.Ck p 0 λ_ _ o=>.ln [o] λs=>.ib [c,s] λu=>.rr [u])))
def ą:GL cx 90 t90:=λ_=>AT
def t91(p:Ab):IT:=
 .Ck p 6 λ_ _ a=>.ln [a] λb=>.ig [b,I 0] λc=>.A0 c (.Ck p 6 λ_ _ d=>.ib [b,I 1] λe=>.op (.Ro 1 false false true) [d,e] λf=>.ca 78 [f] λh=>.fa p 6 λ_ j=>.store 1 j h (.rr [.tuple []])) (.rr [.tuple []])
def v8:GL cx 91 t91:=λ_=>AT
def t92(p:Ab):IT:=
 .ca 102 [p] λa=>.nt [a] λb=>.A0 b (.rr [.tuple []]) (.fa p 4 λ_ c=>.store 1 c (I 7) (.fa p 2 λ_ d=>.ca 121 [d] λe=>.ib [e,I 1] λf=>.loop 3 [f] (λh=>.ih [g h 0,I 0] λj=>.A0 j (.fa p 2 λ_ k=>.ca 163 [k,g h 0] λm=>.cells 4 m λn=>.ie [g h 0,I 0] λo=>.A0 o (.Ck p 9 λ_ _ s=>.A0 s (.fa p 10 λ_ u=>.load (some 4) u λw=>.cells 4 w λy=>.ca 173 [p,a4 y,g h 0] λz=>.op (.ext 0) [z] λa0=>.op (.ext 1) [z] λa1=>.A0 a1 (.fa p 4 λ_ a2=>.store 1 a2 a0 (.rr [g h 0])) (.ib [g h 0,I 1] λa5=>.rn [a5])) (.ca 173 [p,a4 n,g h 0] λa7=>.op (.ext 0) [a7] λa8=>.op (.ext 1) [a7] λb0=>.A0 b0 (.fa p 4 λ_ b1=>.store 1 b1 a8 (.rr [g h 0])) (.ib [g h 0,I 1] λb2=>.rn [b2]))) (.ca 173 [p,a4 n,g h 0] λb3=>.op (.ext 0) [b3] λb4=>.op (.ext 1) [b3] λb5=>.A0 b5 (.fa p 4 λ_ b6=>.store 1 b6 b4 (.rr [g h 0])) (.ib [g h 0,I 1] λb7=>.rn [b7]))) (.rx 0 [g h 0])) (lx 0 (λb8=>.rr [.tuple []]) λb8=>.rr [.tuple []])))
def Ć:GL cx 92 t92:=λ_=>AT
def aA8(p:Ab):IT:=
 .ca 179 [.int .i32 9,.int .i32 10] λa=>.ca 179 [.int .i32 12,.int .i32 13] λb=>.ca 179 [.int .i32 32,.int .i32 32] λc=>.op (.Cb 1) [a,b,c] λd=>.ca 178 [d] λe=>.EJ e [p] λf=>.rr [f]
def iU:GL cx 101 aA8:=λ_=>AT
def aE8(p:Ab):IT:=
 .op (.WN true) [p,.ptr none] λa=>.A0 a (.Ck p 0 λ_ _ b=>.op (.WN true) [b,.ptr none] λc=>.rr [c]) (.rr [ff])
def ax:GL cx 102 aE8:=λ_=>AT
def aA9(p q:Ab):IT:=
 .ca 102 [p] λa=>.nt [a] λb=>.A0 b (.rr [.tuple [I 0,I 0]]) (.ie [q,I 0] λc=>.GY 100012 (.A0 c (.fa p 2 λ_ d=>.ca 121 [d] λe=>.ie [e,I 0] λf=>.A0 f (.Ck p 1 λ_ _ h=>.rr [q,h,I 0]) (.ca 180 [p] λj=>.op (.part 0 none) [j] λk=>.rn [k,I 0,I 0])) (.rn [q,I 0,I 0])) (nx (λm=>.ca 104 [p,g m 0] λn=>.cells 13 n λo=>.GY 200009 (.Ck p 15 λ_ _ s=>.A0 s (.ie [g o 0,I 4] λu=>.A0 u (.op (.Dc [I 0,I 0,S [],ff] [(1,1),(2,1)]) [g o 4,g o 5] λw=>.op (.Cb 1) [S aX4,S aYB,S aYy,S aYC,S [116,114]] λy=>.ca 164 [w,y] λz=>.rn [z]) (.rn [ff])) (.rn [ff])) (nx (λa0=>.GY 100046 (.A0 (g a0 0) (.ca 181 [p] λa1=>.op (.ext 0) [a1] λa2=>.op (.ext 1) [a1] λa5=>.rn [a2,a5]) (.rn [g m 0,g m 2])) (nx (λa7=>.ca 104 [p,g a7 0] λa8=>.cells 13 a8 λb0=>.iq [g b0 11,I 0] λb1=>.A0 b1 (.rr [.tuple [g b0 11,I 0]]) (.rr [.tuple [g a7 0,g a7 1]])) λa7=>.rr [.tuple [g a7 0,g a7 1]])) λa0=>.rr [.tuple [g m 0,g m 2]])) λm=>.rr [.tuple [g m 1,g m 2]]))
def iV:Gi cx 103 aA9:=λ_ _=>AT
def aE9(p q:Ab):IT:=
 .Ck p 0 λ_ _ a=>.ca 13 [a,q] λb=>.op (.ext 0) [b] λc=>.op (.ext 1) [b] λ_=>.cells 13 c λd=>.cells 13 (a13 d) λe=>.rr [a13 e]
def ay:Gi cx 104 aE9:=λ_ _=>AT
def aFa(p q r:Ab):IT:=
 .op (.Dc [I 0,I 0,.slnil,I 0,I 0,S [],.slnil,S [],S [],S [],ff,I 0,I 0] [(0,1),(7,1)]) [I 6,r] λa=>.ca 108 [p,q,a] λb=>.op (.ext 0) [b] λc=>.op (.ext 1) [b] λd=>.rr [.tuple [c,d]]
def az:Tf cx 105 aFa:=λ_ _ _=>AT
def tn(p q r u:Ab):IT:=
 .cells 1 p λa=>.ca 104 [g a 0,r] λb=>.op (.part 0 none) [b] λc=>.ie [c,I 1] λd=>.A0 d (.ca 104 [g a 0,q] λe=>.op (.part 0 none) [e] λf=>.ie [f,I 4] λh=>.A0 h (.Ck (g a 0) 0 λ_ _ j=>.ca 12 [j,r] λk=>.ca 182 [k,.func (.func 183) [] [.Cd [g a 0]]] λm=>.A0 m (.rr [.tuple []]) (.ld (.Cd [g a 0]) λn=>.Ck n 0 λ_ _ o=>.ca 66 [o,r,q,u] λ_=>.rr [.tuple []])) (.Ck (g a 0) 0 λ_ _ s=>.ca 66 [s,r,q,u] λ_=>.rr [.tuple []])) (.Ck (g a 0) 0 λ_ _ w=>.ca 66 [w,r,q,u] λ_=>.rr [.tuple []])
def T3:Tq4 cx 106 tn:=λ_ _ _ _=>AT
def aFb(p q:Ab):IT:=
 .op (.Cb 1) [q] λa=>.ca 25 [p,a] λb=>.iq [b,I 0] λc=>.A0 c (.rr [b]) (.ca 24 [p,q] λd=>.fa d 0 λ_ e=>.fl e 0 λ_ f=>.iq [f,I 1] λh=>.A0 h (.rr [I 9]) (.rr [I 0]))
def a_:Gi cx 107 aFb:=λ_ _=>AT
def aBa(p q r:Ab):IT:=
 .cells 13 r λa=>.ca 107 [p,q] λb=>.iq [b,I 0] λc=>.A0 c (.rr [.tuple [I 0,b]]) (.cells 1 q λd=>.ca 38 [p,.agg [g a 0,g a 1,g a 2,g d 0,g a 4,g a 5,g a 6,g a 7,g a 8,g a 9,g a 10,g a 11,g a 12]] λe=>.rr [.tuple [e,I 0]])
def iW:Tf cx 108 aBa:=λ_ _ _=>AT
def aBb(p q:Ab):IT:=
 .ca 24 [p,q] λa=>.fa a 0 λ_ b=>.fl b 1 λ_ c=>.ie [c,I 0] λd=>.A0 d (.rr [.tuple []]) (.fa a 0 λ_ e=>.fl e 1 λ_ f=>.ca 24 [p,f] λh=>.fa h 0 λ_ j=>.fl j 2 λ_ k=>.ca 111 [k,q] λm=>.fa h 0 λ_ n=>.fl n 2 λ_ o=>.ia [m,I 1] λs=>.ca 185 [o,m,s] λu=>.fa h 0 λ_ w=>.op (.GC 2) [w] λy=>.store 1 y u (.fa a 0 λ_ z=>.op (.GC 1) [z] λa0=>.store 1 a0 i0 (.rr [.tuple []])))
def iX:Gi cx 110 aBb:=λ_ _=>AT
def aFc(p q:Ab):IT:=
 .ln [p] λa=>.loop 2 [I 0,I 0] (λb=>.il [g b 1,a] λc=>.A0 c (.ea 1 [p,g b 1] λd=>.ld d λe=>.ie [q,e] λf=>.A0 f (.rr [g b 1,g b 1]) (.ia [g b 1,I 1] λh=>.rn [g b 0,h])) (.rx 0 [g b 0,g b 1])) (lx 0 (λj=>.rr [I (-1)]) λj=>.rr [g j 0])
def ba:Gi cx 111 aFc:=λ_ _=>AT
def aFd(p q:Ab):IT:=
 .Bz 188 [p] λa=>.Bz 188 [q] λb=>.se [a,b] λc=>.rr [c]
def bb:Gi cx 113 aFd:=λ_ _=>AT
def aFe(p q:Ab):IT:=
 .fl q 3 λ_ a=>.lt [a] λb=>.lt [p] λc=>.ih [b,c] λd=>.A0 d (.fl q 3 λ_ e=>.lt [p] λf=>.op (.Ro 0 true false true) [e,f] λh=>.Bz 113 [h,p] λj=>.rr [j]) (.rr [ff])
def bc:Gi cx 114 aFe:=λ_ _=>AT
def aFf(p q:Ab):IT:=
 .ca 189 [p,q] λa=>.ih [a,I 0] λb=>.rr [b]
def bd:Gi cx 115 aFf:=λ_ _=>AT
def aBc(p q:Ab):IT:=
 .ca 191 [q] λa=>.ca 190 [a,p] λb=>.rr [b]
def iY:Gi cx 116 aBc:=λ_ _=>AT
def aFg(p q r:Ab):IT:=
 .cells 12 q λa=>.ca 102 [p] λb=>.nt [b] λc=>.A0 c (.rr [I 0]) (.ca 192 [p,.func (.func 193) [p] [],GM a,r] λd=>.rr [d])
def be:Tf cx 117 aFg:=λ_ _ _=>AT
def aFh(p q:Ab):IT:=
 .op (.conv .u32) [q] λa=>.ik [a,.int .u32 127] λb=>.A0 b (.op (.conv .u8) [q] λc=>.op (.Cb 1) [c] λd=>.GZ 1 1 p d λe=>.rr [e]) (.ca 194 [p,q] λf=>.rr [f])
def bg:Gi cx 118 aFh:=λ_ _=>AT
def aFi(p q r:Ab):IT:=
 .op (.Cb 1) [q] λa=>.ca 25 [p,a] λb=>.iq [b,I 0] λc=>.A0 c (.rr [b]) (.ca 24 [p,q] λd=>.fa d 0 λ_ e=>.fl e 0 λ_ f=>.iq [f,I 5] λh=>.A0 h (.fa d 0 λ_ j=>.fl j 0 λ_ k=>.iq [k,I 6] λm=>.A0 m (.rr [I 9]) (.fa d 0 λ_ n=>.op (.GC 7) [n] λo=>.store 1 o r (.rr [I 0]))) (.fa d 0 λ_ s=>.op (.GC 7) [s] λu=>.store 1 u r (.rr [I 0])))
def bj:Tf cx 119 aFi:=λ_ _ _=>AT
def aFj(p q r:Ab):IT:=
 .op (.Dc [I 0,I 0,.slnil,I 0,I 0,S [],.slnil,S [],S [],S [],ff,I 0,I 0] [(0,1),(7,1)]) [I 5,r] λa=>.ca 108 [p,q,a] λb=>.op (.ext 0) [b] λc=>.op (.ext 1) [b] λd=>.rr [.tuple [c,d]]
def bk:Tf cx 120 aFj:=λ_ _ _=>AT
def aFk(p:Ab):IT:=
 .op (.WN false) [p,.ptr none] λa=>.A0 a (.rr [I 0]) (.Ck p 0 λ_ _ b=>.ln [b] λc=>.rr [c])
def bl:GL cx 121 aFk:=λ_=>AT
def aFl(p:Ab):IT:=
 .ca 121 [p] λa=>.ib [a,I 1] λb=>.ca 163 [p,b] λc=>.cells 4 c λd=>.rr [a4 d]
def bm:GL cx 122 aFl:=λ_=>AT
def aFm(p q r:Ab):IT:=
 .cells 3 q λa=>.op (.Ro 3 false false true) [p,r] λb=>.op (.append 3 48) [.slnil,b] λc=>.op (.Cb 3) [a3 a] λd=>.op (.append 3 48) [c,d] λe=>.op (.Ro 3 false true false) [p,r] λf=>.op (.append 3 48) [e,f] λh=>.rr [h]
def bn:Tf cx 123 aFm:=λ_ _ _=>AT
def aFn(p q:Ab):IT:=
 .cells 1 q λa=>.ca 195 [p,.func (.func 196) [] [.Cd [g a 0]]] λb=>.rr [b]
def bp:Gi cx 124 aFn:=λ_ _=>AT
def aFo(p:Ab):IT:=
 .ca 168 [p,.func (.func 197) [] [],.func (.func 169) [] []] λa=>.rr [a]
def bq:GL cx 125 aFo:=λ_=>AT
def aFp(p q:Ab):IT:=
 .cells 4 q λa=>.op (.WN true) [p,.ptr none] λb=>.A0 b (.Ck p 0 λ_ _ c=>.Ck p 0 λ_ _ d=>.ln [d] λe=>.ca 199 [c,a4 a,e] λf=>.fa p 0 λ_ h=>.store 1 h f (.rr [.tuple []])) (.rr [.tuple []])
def br:Gi cx 126 aFp:=λ_ _=>AT
def t127(p q:Ab):IT:=
 .ca 151 [p,q] λa=>.il [a,I 1] λb=>.A0 b (.rr [ff]) (.Ck p 0 λ_ _ c=>.ca 200 [c,a] λd=>.fa p 0 λ_ e=>.store 1 e d (.rr [tt]))
def iZ:Gi cx 127 t127:=λ_ _=>AT
def aFq(p q r:Ab):IT:=
 .ca 191 [q] λa=>.ln [a] λb=>.loop 1 [I 0] (λc=>.il [g c 0,b] λd=>.A0 d (.ea 1 [a,g c 0] λe=>.ld e λf=>.Iw p f r (.ia [g c 0,I 1] λh=>.rn [h])) (.rx 0 [g c 0])) (lx 0 (λj=>.rr [.tuple []]) λj=>.rr [.tuple []])
def bu:Tf cx 128 aFq:=λ_ _ _=>AT
def aFr(p:Ab):IT:=
 .Ck p 0 λ_ _ a=>.fa p 1 λ_ b=>.load (some 12) b λc=>.ca 48 [a,c] λd=>.rr [d]
def bw:GL cx 129 aFr:=λ_=>AT
def aFs(p:Ab):IT:=
 .cells 1 p λa=>.rr [.func (.func 201) [] [.Cd [g a 0]]]
def bx:GL cx 130 aFs:=λ_=>AT
def aFt(p:Ab):IT:=
 .Ck p 0 λ_ _ a=>.ca 202 [a] λ_=>.Ck p 0 λ_ _ b=>.fa p 1 λ_ c=>.load (some 12) c λd=>.ca 70 [b,d] λ_=>.rr [.tuple []]
def bz:GL cx 131 aFt:=λ_=>AT
def ć(p:Ab):IT:=
 .Ck p 0 λ_ _ a=>.ca 202 [a] λ_=>.Ck p 0 λ_ _ b=>.ca 180 [b] λc=>.cells 4 c λd=>.ie [g d 1,I 1] λe=>.A0 e (.Bz 203 [g d 2] λf=>.A0 f (.Ck p 0 λ_ _ h=>.fa h 2 λ_ j=>.ca 76 [j] λ_=>.Ck p 0 λ_ _ k=>.fa p 1 λ_ m=>.load (some 12) m λn=>.ca 70 [k,n] λ_=>.rr [.tuple []]) (.Ck p 0 λ_ _ o=>.fa p 1 λ_ s=>.load (some 12) s λu=>.ca 70 [o,u] λ_=>.rr [.tuple []])) (.Ck p 0 λ_ _ w=>.fa p 1 λ_ y=>.load (some 12) y λz=>.ca 70 [w,z] λ_=>.rr [.tuple []])
def Xa:GL cx 132 ć:=λ_=>AT
def aFu(p:Ab):IT:=
 .ca 131 [p] λ_=>.Ck p 0 λ_ _ a=>.fa a 17 λ_ b=>.store 1 b tt (.Ck p 0 λ_ _ c=>.fa c 14 λ_ d=>.store 1 d ff (.rr [.tuple []]))
def b_:GL cx 133 aFu:=λ_=>AT
def aFv(p:Ab):IT:=
 .Ck p 0 λ_ _ a=>.ca 84 [a] λ_=>.Ck p 0 λ_ _ b=>.fa p 1 λ_ c=>.load (some 12) c λd=>.ca 204 [b,d] λ_=>.rr [.tuple []]
def cj:GL cx 134 aFv:=λ_=>AT
def aFw(p:Ab):IT:=
 .Ck p 0 λ_ _ a=>.ca 84 [a] λ_=>.Ck p 0 λ_ _ b=>.fa p 1 λ_ c=>.load (some 12) c λd=>.ca 70 [b,d] λ_=>.Ck p 0 λ_ _ e=>.fa e 3 λ_ f=>.ca 77 [f] λ_=>.Ck p 0 λ_ _ h=>.fa h 14 λ_ j=>.store 1 j ff (.rr [.tuple []])
def cp:GL cx 135 aFw:=λ_=>AT
def aX(p:Ab):IT:=
 .Ck p 0 λ_ _ a=>.Ck a 14 λ_ _ b=>.fa p 1 λ_ c=>.fl c 1 λ_ d=>.se [d,S [104,114]] λe=>.A0 e (.Ck p 0 λ_ _ f=>.ca 202 [f] λ_=>.Ck p 0 λ_ _ h=>.fa p 1 λ_ j=>.load (some 12) j λk=>.ca 73 [h,k] λ_=>.Ck p 0 λ_ _ m=>.fa m 14 λ_ n=>.store 1 n ff (.rr [.tuple []])) (.se [d,S aZp] λo=>.A0 o (.Ck p 0 λ_ _ s=>.fa p 1 λ_ u=>.load (some 12) u λw=>.ca 73 [s,w] λ_=>.Ck p 0 λ_ _ y=>.fa y 14 λ_ z=>.store 1 z b (.rr [.tuple []])) (.se [d,S aY7] λa0=>.A0 a0 (.Ck p 0 λ_ _ a1=>.fa p 1 λ_ a2=>.load (some 12) a2 λa5=>.ca 73 [a1,a5] λ_=>.Ck p 0 λ_ _ a7=>.fa a7 14 λ_ a8=>.store 1 a8 b (.rr [.tuple []])) (.se [d,S aZq] λb0=>.A0 b0 (.Ck p 0 λ_ _ b1=>.fa p 1 λ_ b2=>.load (some 12) b2 λb3=>.ca 73 [b1,b3] λ_=>.Ck p 0 λ_ _ b4=>.fa b4 14 λ_ b5=>.store 1 b5 b (.rr [.tuple []])) (.se [d,S aZf] λb6=>.A0 b6 (.Ck p 0 λ_ _ b7=>.ca 84 [b7] λ_=>.A0 b (.fa p 1 λ_ b8=>.load (some 12) b8 λb9=>.ca 205 [b9] λc0=>.Ck p 0 λ_ _ c1=>.fa p 1 λ_ c2=>.load (some 12) c2 λc3=>.ca 73 [c1,c3] λ_=>.Ck p 0 λ_ _ c4=>.fa c4 14 λ_ c5=>.store 1 c5 c0 (.rr [.tuple []])) (.Ck p 0 λ_ _ c6=>.fa p 1 λ_ c7=>.load (some 12) c7 λc8=>.ca 73 [c6,c8] λ_=>.Ck p 0 λ_ _ c9=>.fa c9 14 λ_ d0=>.store 1 d0 ff (.rr [.tuple []]))) (.se [d,S aZk] λd1=>.A0 d1 (.fa p 1 λ_ d2=>.op (.GC 1) [d2] λd3=>.store 1 d3 (S aZw) (.Ck p 0 λ_ _ d4=>.ca 84 [d4] λ_=>.Ck p 0 λ_ _ d5=>.fa p 1 λ_ d6=>.load (some 12) d6 λd7=>.ca 73 [d5,d7] λ_=>.Ck p 0 λ_ _ d8=>.fa d8 14 λ_ d9=>.store 1 d9 ff (.rr [.tuple []]))) (.Ck p 0 λ_ _ e0=>.ca 84 [e0] λ_=>.Ck p 0 λ_ _ e1=>.fa p 1 λ_ e2=>.load (some 12) e2 λe3=>.ca 73 [e1,e3] λ_=>.Ck p 0 λ_ _ e4=>.fa e4 14 λ_ e5=>.store 1 e5 ff (.rr [.tuple []])))))))
def MX:GL cx 136 aX:=λ_=>AT
def aFx(p:Ab):IT:=
 .rr [ff]
def cq:GL cx 137 aFx:=λ_=>AT
def wA(p:Ab):IT:=
 .fa p 1 λ_ a=>.fl a 1 λ_ b=>.se [b,S aYr] λc=>.A0 c (.ca 131 [p] λ_=>.Ck p 0 λ_ _ d=>.fa d 18 λ_ e=>.store 1 e (I 5) (.rr [.tuple []])) (.se [b,S aYI] λf=>.A0 f (.Ck p 0 λ_ _ h=>.fa p 1 λ_ j=>.load (some 12) j λk=>.ca 74 [h,k,I 2] λ_=>.Ck p 0 λ_ _ m=>.fa m 17 λ_ n=>.store 1 n tt (.Ck p 0 λ_ _ o=>.fa o 14 λ_ s=>.store 1 s ff (.rr [.tuple []]))) (.se [b,S aZx] λu=>.A0 u (.Ck p 0 λ_ _ w=>.ca 202 [w] λ_=>.Ck p 0 λ_ _ y=>.ca 84 [y] λ_=>.Ck p 0 λ_ _ z=>.fa z 14 λ_ a0=>.store 1 a0 ff (.Ck p 0 λ_ _ a1=>.fa p 1 λ_ a2=>.load (some 12) a2 λa5=>.ca 74 [a1,a5,I 3] λ_=>.rr [.tuple []])) (.se [b,S aYV] λa7=>.A0 a7 (.Ck p 0 λ_ _ a8=>.fa a8 14 λ_ b0=>.store 1 b0 ff (.Ck p 0 λ_ _ b1=>.fa p 1 λ_ b2=>.load (some 12) b2 λb3=>.ca 74 [b1,b3,I 3] λ_=>.rr [.tuple []])) (.Ck p 0 λ_ _ b4=>.fa p 1 λ_ b5=>.load (some 12) b5 λb6=>.ca 74 [b4,b6,I 3] λ_=>.rr [.tuple []]))))
def RK:GL cx 138 wA:=λ_=>AT
def tq(p:Ab):IT:=
 .ca 206 [p,S aYY] λa=>.A0 a (.fa p 1 λ_ b=>.fl b 1 λ_ c=>.se [c,S [114,112]] λd=>.A0 d (.Ck p 0 λ_ _ e=>.fa e 2 λ_ f=>.ca 165 [f,S aY5] λ_=>.Ck p 0 λ_ _ h=>.fa p 1 λ_ j=>.load (some 12) j λk=>.ca 70 [h,k] λ_=>.rr [.tuple []]) (.fa p 1 λ_ m=>.fl m 1 λ_ n=>.se [n,S [114,116]] λo=>.A0 o (.Ck p 0 λ_ _ s=>.fa s 2 λ_ u=>.ca 165 [u,S aY5] λ_=>.Ck p 0 λ_ _ w=>.fa p 1 λ_ y=>.load (some 12) y λz=>.ca 70 [w,z] λ_=>.rr [.tuple []]) (.Ck p 0 λ_ _ a0=>.fa a0 2 λ_ a1=>.ca 165 [a1,S []] λ_=>.Ck p 0 λ_ _ a2=>.fa p 1 λ_ a5=>.load (some 12) a5 λa7=>.ca 70 [a2,a7] λ_=>.rr [.tuple []]))) (.Ck p 0 λ_ _ a8=>.fa p 1 λ_ b0=>.load (some 12) b0 λb1=>.ca 70 [a8,b1] λ_=>.rr [.tuple []])
def T4:GL cx 139 tq:=λ_=>AT
def tr(p:Ab):IT:=
 .fa p 1 λ_ a=>.fl a 1 λ_ b=>.se [b,S aYG] λc=>.A0 c (.Ck p 0 λ_ _ d=>.ca 84 [d] λ_=>.Ck p 0 λ_ _ e=>.fa p 1 λ_ f=>.load (some 12) f λh=>.ca 117 [e,h,I 3] λ_=>.fa p 1 λ_ j=>.fl j 9 λ_ k=>.A0 k (.Ck p 0 λ_ _ m=>.fa m 2 λ_ n=>.ca 76 [n] λ_=>.rr [.tuple []]) (.rr [.tuple []])) (.Ck p 0 λ_ _ o=>.ca 84 [o] λ_=>.Ck p 0 λ_ _ s=>.fa p 1 λ_ u=>.load (some 12) u λw=>.ca 117 [s,w,I 2] λ_=>.fa p 1 λ_ y=>.fl y 9 λ_ z=>.A0 z (.Ck p 0 λ_ _ a0=>.fa a0 2 λ_ a1=>.ca 76 [a1] λ_=>.rr [.tuple []]) (.rr [.tuple []]))
def T5:GL cx 140 tr:=λ_=>AT
end Go.Am
