/- Lemmas -/
import Derived.Test.YtbkijlifflhdiaaGreatDoorV9
import Derived.Test.YtbkijlifflhdiaaGreatDoorV18
set_option linter.all false
namespace Go.Am
open Go
def zR(p q r u w:Aa):IT:=
 .ca 140 [p,q] λa=>.iq [a,I 0] λb=>.A4 b (.rr [.tuple [I 0,a]]) (.ca 172 [w] λc=>.op (.ext 0) [c] λd=>.op (.ext 1) [c] λe=>.nt [e] λf=>.A4 f (.rr [.tuple [I 0,I 2]]) (.op (.Cd 1) [r] λh=>.ca 178 [h] λj=>.nt [j] λk=>.A4 k (.rr [.tuple [I 0,I 2]]) (.op (.B4 [I 0,I 0,.slnil,I 0,I 0,S [],.slnil,S [],S [],S [],ff,I 0,I 0] [(0,1),(3,1),(4,1),(5,1),(6,1)]) [I 4,q,r,u,d] λm=>.ca 90 [p,m] λn=>.ca 55 [p,n] λo=>.ca 179 [o] λs=>.A4 s (.ca 180 [p,q] λy=>.op (.B4 [I 0,I 0,.slnil,I 0,I 0,S [],.slnil,S [],S [],S [],ff,I 0,I 0] [(0,1),(12,1),(3,1)]) [I 2,n,y] λz=>.ca 90 [p,z] λa0=>.ca 55 [p,n] λa1=>.fa a1 0 λ_ a2=>.op (.FE 11) [a2] λa5=>.store 1 a5 a0 (.rr [.tuple [n,I 0]])) (.rr [.tuple [n,I 0]]))))
def Xy:Tq5 cx 130 zR:=λ_ _ _ _ _=>AQ
def zS(p q:Aa):IT:=
 .ca 48 [p,q] λa=>.cells 13 a λb=>.iq [g b 11,I 0] λc=>.A4 c (.ca 48 [p,g b 11] λd=>.cells 13 d λe=>.iq [g e 3,I 0] λf=>.A4 f (.rr [g e 3]) (.E4 p 1 λ_ _ h=>.rr [h])) (.iq [g b 3,I 0] λj=>.A4 j (.rr [g b 3]) (.E4 p 1 λ_ _ k=>.rr [k]))
def Xz:F7 cx 131 zS:=λ_ _=>AQ
def zT(p q:Aa):IT:=
 .ca 55 [p,q] λa=>.fa a 0 λ_ b=>.fl b 1 λ_ c=>.ie [c,I 0] λd=>.A4 d (.rr [.tuple []]) (.fa a 0 λ_ e=>.fl e 1 λ_ f=>.ca 55 [p,f] λh=>.fa h 0 λ_ j=>.fl j 2 λ_ k=>.ca 49 [k,q] λm=>.fa h 0 λ_ n=>.fl n 2 λ_ o=>.ia [m,I 1] λs=>.ca 181 [o,m,s] λu=>.fa h 0 λ_ w=>.op (.FE 2) [w] λy=>.store 1 y u (.fa a 0 λ_ z=>.op (.FE 1) [z] λa0=>.store 1 a0 i0 (.rr [.tuple []])))
def XA:F7 cx 132 zT:=λ_ _=>AQ
def Ë(p q:Aa):IT:=
 .ln [p] λa=>.ln [q] λb=>.iq [a,b] λc=>.A4 c (.rr [ff]) (.loop 4 [ff,I 0] (λd=>.ln [p] λe=>.il [g d 1,e] λf=>.A4 f (.ea 3 [p,g d 1] λh=>.load (some 3) h λj=>.ea 3 [q,g d 1] λk=>.load (some 3) k λm=>.op (.geq true [.i,.s,.s]) [j,m] λn=>.A4 n (.rr [ff,g d 1]) (.ia [g d 1,I 1] λo=>.rn [g d 0,o])) (.rx 0 [g d 0,g d 1])) (lx 0 (λs=>.rr [tt]) λs=>.rr [g s 0]))
def zU:F7 cx 133 Ë:=λ_ _=>AQ
def qm(p q r:Aa):IT:=
 .cells 4 q λa=>.op (.P4 4 false false true) [p,r] λb=>.op (.append 4 40) [.slnil,b] λc=>.op (.Cd 4) [a4 a] λd=>.op (.append 4 40) [c,d] λe=>.op (.P4 4 false true false) [p,r] λf=>.op (.append 4 40) [e,f] λh=>.rr [h]
def iS:Pm cx 134 qm:=λ_ _ _=>AQ
def uE(p q:Aa):IT:=
 .ln [p] λa=>.loop 2 [I 0,I 0] (λb=>.il [g b 1,a] λc=>.A4 c (.ea 3 [p,g b 1] λd=>.load (some 3) d λe=>.EK q [e] λf=>.A4 f (.rr [g b 1,g b 1]) (.ia [g b 1,I 1] λh=>.rn [g b 0,h])) (.rx 0 [g b 0,g b 1])) (lx 0 (λj=>.rr [I (-1)]) λj=>.rr [g j 0])
def Sf:F7 cx 135 uE:=λ_ _=>AQ
def qn(p:Aa):IT:=
 .cells 3 p λa=>.ie [g a 0,I 0] λb=>.A4 b (.se [g a 1,S aJ0] λc=>.rr [c]) (.rr [ff])
def iT:KC cx 136 qn:=λ_=>AQ
def qo(p q:Aa):IT:=
 .Ck 182 [p] λa=>.Ck 182 [q] λb=>.se [a,b] λc=>.rr [c]
def iU:F7 cx 137 qo:=λ_ _=>AQ
def qp(p q:Aa):IT:=
 .ca 183 [p,q] λa=>.ih [a,I 0] λb=>.rr [b]
def iV:F7 cx 138 qp:=λ_ _=>AQ
def zV(p q:Aa):IT:=
 .ca 56 [p,q] λa=>.nt [a] λb=>.A4 b (.rr [I 0]) (.ca 55 [p,q] λc=>.fa c 0 λ_ d=>.fl d 1 λ_ e=>.rr [e])
def XB:F7 cx 139 zV:=λ_ _=>AQ
def qq(p q:Aa):IT:=
 .op (.Cd 1) [q] λa=>.ca 54 [p,a] λb=>.iq [b,I 0] λc=>.A4 c (.rr [b]) (.ca 55 [p,q] λd=>.fa d 0 λ_ e=>.fl e 0 λ_ f=>.iq [f,I 1] λh=>.A4 h (.rr [I 9]) (.rr [I 0]))
def iW:F7 cx 140 qq:=λ_ _=>AQ
def qt(p q:Aa):IT:=
 .ln [p] λa=>.loop 2 [I 0,I 0] (λb=>.il [g b 1,a] λc=>.A4 c (.ea 1 [p,g b 1] λd=>.ld d λe=>.EK q [e] λf=>.A4 f (.rr [g b 1,g b 1]) (.ia [g b 1,I 1] λh=>.rn [g b 0,h])) (.rx 0 [g b 0,g b 1])) (lx 0 (λj=>.rr [I (-1)]) λj=>.rr [g j 0])
def iX:F7 cx 141 qt:=λ_ _=>AQ
def Ì(p q:Aa):IT:=
 .cells 3 p λa=>.cells 3 q λb=>.se [g a 1,g b 1] λc=>.A4 c (.ln [g a 2] λd=>.ln [g b 2] λe=>.ie [d,e] λf=>.A4 f (.EK (.func (.func 195) [] []) [g a 2,g b 2] λh=>.A4 h (.EK (.func (.func 195) [] []) [g b 2,g a 2] λj=>.rr [j]) (.rr [ff])) (.rr [ff])) (.rr [ff])
def zW:F7 cx 151 Ì:=λ_ _=>AQ
def Í(p q:Aa):IT:=
 .op (.P4 3 false false true) [p,q] λa=>.op (.append 3 48) [.slnil,a] λb=>.ia [q,I 1] λc=>.op (.P4 3 false true false) [p,c] λd=>.op (.append 3 48) [b,d] λe=>.rr [e]
def zX:F7 cx 152 Í:=λ_ _=>AQ
def Î(p:Aa):IT:=
 .cells 3 p λa=>.ca 27 [g a 2] λb=>.cells 1 b λc=>.cells 3 (.agg [g a 0,g a 1,g c 0]) λd=>.rr [a3 d]
def zY:KC cx 153 Î:=λ_=>AQ
def Ï(p q r:Aa):IT:=
 .cells 1 r λa=>.ca 198 [q] λb=>.cells 1 b λc=>.ca 158 [p,.func (.func 199) [] [.Cb [g a 0],.Cb [g c 0]]] λd=>.ih [d,I 0] λe=>.A4 e (.ld (.Cb [g a 0]) λf=>.E4 p 0 λ_ _ h=>.ea 4 [h,d] λj=>.load (some 4) j λk=>.EK f [k] λm=>.rr [m]) (.rr [ff])
def zZ:Pm cx 154 Ï:=λ_ _ _=>AQ
def Ð(p q:Aa):IT:=
 .cells 4 p λa=>.ld q λb=>.ca 127 [a4 a,b] λc=>.rr [c]
def aa:F7 cx 155 Ð:=λ_ _=>AQ
def Ñ(p q:Aa):IT:=
 .cells 4 p λa=>.iq [g a 1,I 1] λb=>.A4 b (.rr [tt]) (.Ck 157 [g a 2] λc=>.nt [c] λd=>.A4 d (.rr [tt]) (.ld q λe=>.se [g a 2,e] λf=>.rr [f]))
def ae:F7 cx 156 Ñ:=λ_ _=>AQ
def Ò(p:Aa):IT:=
 .se [p,S [100,100]] λa=>.A4 a (.rr [tt]) (.se [p,S [100,116]] λb=>.A4 b (.rr [tt]) (.se [p,S [108,105]] λc=>.A4 c (.rr [tt]) (.se [p,S aJx] λd=>.A4 d (.rr [tt]) (.se [p,S aJH] λe=>.A4 e (.rr [tt]) (.se [p,S [112]] λf=>.A4 f (.rr [tt]) (.se [p,S [114,98]] λh=>.A4 h (.rr [tt]) (.se [p,S [114,112]] λj=>.A4 j (.rr [tt]) (.se [p,S [114,116]] λk=>.A4 k (.rr [tt]) (.se [p,S [114,116,99]] λm=>.A4 m (.rr [tt]) (.rr [ff]))))))))))
def af:KC cx 157 Ò:=λ_=>AQ
def qu(p q:Aa):IT:=
 .ca 82 [p] λa=>.ib [a,I 1] λb=>.loop 2 [I 0,b] (λc=>.ih [g c 1,I 0] λd=>.A4 d (.E4 p 0 λ_ _ e=>.ea 4 [e,g c 1] λf=>.load (some 4) f λh=>.EK q [h] λj=>.A4 j (.rr [g c 1,g c 1]) (.ib [g c 1,I 1] λk=>.rn [g c 0,k])) (.rx 0 [g c 0,g c 1])) (lx 0 (λm=>.rr [I (-1)]) λm=>.rr [g m 0])
def iY:F7 cx 158 qu:=λ_ _=>AQ
def Ó(p q:Aa):IT:=
 .cells 4 p λa=>.ld q λb=>.ie [g a 0,b] λc=>.rr [c]
def ag:F7 cx 159 Ó:=λ_ _=>AQ
def Ô(p q:Aa):IT:=
 .cells 4 p λa=>.ld q λb=>.ie [g a 0,b] λc=>.rr [c]
def ah:F7 cx 160 Ô:=λ_ _=>AQ
def qv(p q:Aa):IT:=
 .ie [p,I 3] λa=>.A4 a (.se [q,S [109,105]] λb=>.A4 b (.rr [tt]) (.se [q,S [109,110]] λc=>.A4 c (.rr [tt]) (.se [q,S [109,111]] λd=>.A4 d (.rr [tt]) (.se [q,S [109,115]] λe=>.A4 e (.rr [tt]) (.se [q,S [109,116,101,120,116]] λf=>.rr [f]))))) (.rr [ff])
def iZ:F7 cx 161 qv:=λ_ _=>AQ
def Õ(p q:Aa):IT:=
 .op (.RW false) [p,.ptr none] λa=>.A4 a (.rr [I (-1)]) (.E4 p 0 λ_ _ b=>.ln [b] λc=>.ib [c,I 1] λd=>.loop 4 [I 0,d] (λe=>.ih [g e 1,I 0] λf=>.A4 f (.E4 p 0 λ_ _ h=>.ea 3 [h,g e 1] λj=>.fl j 0 λ_ k=>.iq [k,I 0] λm=>.A4 m (.E4 p 0 λ_ _ n=>.ea 3 [n,g e 1] λo=>.fl o 1 λ_ s=>.se [s,q] λu=>.A4 u (.rr [g e 1,g e 1]) (.ib [g e 1,I 1] λw=>.rn [g e 0,w])) (.rx 0 [g e 0,g e 1])) (.rx 0 [g e 0,g e 1])) (lx 0 (λy=>.rr [I (-1)]) λy=>.rr [g y 0]))
def aj:F7 cx 162 Õ:=λ_ _=>AQ
def Ö(p q r:Aa):IT:=
 .fa q 3 λ_ a=>.fl a 0 λ_ b=>.ca 110 [b] λc=>.ia [r,I 1] λd=>.ca 200 [c,r,d] λe=>.fa q 3 λ_ f=>.op (.FE 0) [f] λh=>.store 1 h e (.E4 p 3 λ_ _ j=>.il [r,j] λk=>.A4 k (.E4 p 3 λ_ _ m=>.ib [m,I 1] λn=>.fa p 3 λ_ o=>.store 1 o n (.E4 p 4 λ_ _ s=>.il [r,s] λu=>.A4 u (.E4 p 4 λ_ _ w=>.ib [w,I 1] λy=>.fa p 4 λ_ z=>.store 1 z y (.HA 3 q (.rr [.tuple []]))) (.HA 3 q (.rr [.tuple []])))) (.E4 p 4 λ_ _ a0=>.il [r,a0] λa1=>.A4 a1 (.E4 p 4 λ_ _ a2=>.ib [a2,I 1] λa5=>.fa p 4 λ_ a7=>.store 1 a7 a5 (.HA 3 q (.rr [.tuple []]))) (.HA 3 q (.rr [.tuple []]))))
def ak:Pm cx 163 Ö:=λ_ _ _=>AQ
def t164(p q r:Aa):IT:=
 .cells 1 r λa=>.ca 154 [p,q,.func (.func 201) [] [.Cb [g a 0]]] λb=>.rr [b]
def aq:Pm cx 164 t164:=λ_ _ _=>AQ
def Ø(p q:Aa):IT:=
 .ca 109 [p,q] λa=>.ia [a,I 1] λb=>.loop 3 [I 0,b] (λc=>.ih [a,I 0] λd=>.A4 d (.ca 82 [p] λe=>.il [g c 1,e] λf=>.A4 f (.E4 p 0 λ_ _ h=>.ea 4 [h,g c 1] λj=>.fl j 1 λ_ k=>.E4 p 0 λ_ _ m=>.ea 4 [m,g c 1] λn=>.fl n 2 λ_ o=>.Ck 113 [k,o] λs=>.A4 s (.rr [g c 1,g c 1]) (.ia [g c 1,I 1] λu=>.rn [g c 0,u])) (.rx 0 [g c 0,g c 1])) (.rx 0 [g c 0,g c 1])) (lx 0 (λw=>.rr [I (-1)]) λw=>.rr [g w 0])
def ar:F7 cx 165 Ø:=λ_ _=>AQ
def Ù(p q r u:Aa):IT:=
 .ib [u,I 1] λa=>.loop 2 [I 0,a] (λb=>.ig [g b 1,r] λc=>.A4 c (.fa p 2 λ_ d=>.ca 81 [d,g b 1] λe=>.cells 4 e λf=>.ia [g b 0,I 1] λh=>.fa p 3 λ_ j=>.ca 114 [j,g f 0] λk=>.EM 200007 (.ig [h,I 3] λm=>.A4 m (.ih [k,I 0] λn=>.rn [n]) (.rn [ff])) (λx o=>match x with| .normal=>.EM 100039 (.A4 (g o 0) (.ca 163 [q,p,k] λ_=>.fa p 3 λ_ s=>.ca 114 [s,g f 0] λw=>.rn [w]) (.rn [k])) (λx y=>match x with| .normal=>.il [g y 0,I 0] λz=>.A4 z (.fa p 2 λ_ a0=>.ca 168 [a0,g f 0] λ_=>.ib [g b 1,I 1] λa1=>.rn [h,a1]) (.fa p 3 λ_ a2=>.fl a2 0 λ_ a5=>.ea 3 [a5,g y 0] λa7=>.load (some 3) a7 λa8=>.cells 3 a8 λb0=>.fa q 5 λ_ b1=>.fl b1 0 λb2 b3=>.ca 111 [a3 b0] λb4=>.ld b2 λb5=>.same b3 b5 (.ca 76 [p,b4,I 1,b3] λb6=>.cells 4 b6 λb7=>.fa p 2 λ_ b8=>.ca 202 [b8,g f 0,a4 b7] λ_=>.fa p 3 λ_ b9=>.op (.B4 [I 0,S [],.slnil] [(0,1),(1,1),(2,1)]) [g b7 0,g b0 1,g b0 2] λc0=>.ca 203 [b9,g f 0,c0] λ_=>.E4 q 13 λ_ _ c2=>.fa q 9 λ_ c3=>.fl c3 0 λ_ c4=>.ie [c2,c4] λc5=>.EM 100104 (.A4 c5 (.ia [g y 0,I 1] λc7=>.fa q 4 λ_ c8=>.store 1 c8 c7 (.rn [])) (.rn [])) (λx _=>match x with| .normal=>.E4 q 13 λ_ _ c9=>.ca 53 [p,c9,g b7 0,I 0] λ_=>.fa q 13 λ_ d0=>.store 1 d0 (g b7 0) (.ib [g b 1,I 1] λd1=>.rn [h,d1])| .exit i=>if i=1 then .ib [g b 1,I 1] λd2=>.rn [h,d2] else .ret (.exit i) [h,g b 1]| .ret=>.rr [h,g b 1])))| .exit i=>if i=1 then .ib [g b 1,I 1] λd3=>.rn [h,d3] else .ret (.exit i) [h,g b 1]| .ret=>.rr [h,g b 1])| .exit i=>if i=1 then .ib [g b 1,I 1] λd4=>.rn [h,d4] else .ret (.exit i) [h,g b 1]| .ret=>.rr [h,g b 1])) (.rx 0 [g b 0,g b 1])) (lx 0 (λd5=>.rr [.tuple []]) λd5=>.rr [.tuple []])
def au:zr cx 166 Ù:=λ_ _ _ _=>AQ
def Ú(p q r:Aa):IT:=
 .cells 3 q λa=>.op (.RW true) [p,.ptr none] λb=>.A4 b (.E4 p 0 λ_ c d=>.op (.Jt true) [r,I 0] λe=>.E4 p 0 λ_ f h=>.ln [h] λj=>.op (.Jt false) [e,j] λk=>.ca 153 [a3 a] λm=>.ld f λn=>.same h n (.ld c λo=>.same d o (.ca 122 [d,m,k] λs=>.fa p 0 λ_ u=>.store 1 u s (.rr [.tuple []])))) (.rr [.tuple []])
def aw:Pm cx 167 Ú:=λ_ _ _=>AQ
def qw(p q:Aa):IT:=
 .ca 109 [p,q] λa=>.il [a,I 1] λb=>.A4 b (.rr [ff]) (.E4 p 0 λ_ _ c=>.ca 204 [c,a] λd=>.fa p 0 λ_ e=>.store 1 e d (.rr [tt]))
def i5:F7 cx 168 qw:=λ_ _=>AQ
def Û(p q r:Aa):IT:=
 .cells 4 q λa=>.op (.RW true) [p,.ptr none] λb=>.A4 b (.E4 p 0 λ_ _ c=>.op (.Jt true) [r,I 1] λd=>.E4 p 0 λ_ _ e=>.ln [e] λf=>.op (.Jt false) [d,f] λh=>.ca 134 [c,a4 a,h] λj=>.fa p 0 λ_ k=>.store 1 k j (.rr [.tuple []])) (.rr [.tuple []])
def ax:Pm cx 169 Û:=λ_ _ _=>AQ
def qx:IT:=
 .op (.B4 [S [],I 0] [(0,1),(1,1)]) [S [116,114],I 14] λa=>.op (.B4 [S [],I 0] [(0,1),(1,1)]) [S aJI,I 13] λb=>.op (.B4 [S [],I 0] [(0,1),(1,1)]) [S aJJ,I 13] λc=>.op (.B4 [S [],I 0] [(0,1),(1,1)]) [S aJE,I 13] λd=>.op (.B4 [S [],I 0] [(0,1),(1,1)]) [S aJu,I 11] λe=>.op (.B4 [S [],I 0] [(0,1),(1,1)]) [S aJD,I 12] λf=>.op (.B4 [S [],I 0] [(0,1),(1,1)]) [S aJs,I 9] λh=>.op (.B4 [S [],I 0] [(0,1),(1,1)]) [S [98,111,100,121],I 7] λj=>.op (.B4 [S [],I 0] [(0,1),(1,1)]) [S aJ1,I 20] λk=>.op (.Cd 2) [a,b,c,d,e,f,h,j,k] λm=>.rr [m]
def i7:BK cx 170 []=qx:=AQ
def qy(p q:Aa):IT:=
 .ib [q,I 1] λa=>.loop 2 [I 0,a] (λb=>.ih [g b 1,I 0] λc=>.A4 c (.fa p 2 λ_ d=>.ca 81 [d,g b 1] λe=>.op (.Cd 1) [S aJq] λf=>.ca 93 [e,f] λh=>.A4 h (.rx 0 [g b 0,g b 1]) (.fa p 2 λ_ j=>.ca 81 [j,g b 1] λk=>.op (.Cd 1) [S aJs] λm=>.ca 93 [k,m] λn=>.A4 n (.rr [I 17,g b 1]) (.ib [g b 1,I 1] λo=>.rn [g b 0,o]))) (.rx 0 [g b 0,g b 1])) (lx 0 (λs=>.rr [I 16]) λs=>.rr [g s 0])
def jA:F7 cx 171 qy:=λ_ _=>AQ
def qz(p:Aa):IT:=
 .ln [p] λa=>.loop 3 [.slnil,ff,.slnil,I 0] (λb=>.il [g b 3,a] λc=>.A4 c (.ea 3 [p,g b 3] λd=>.load (some 3) d λe=>.cells 3 e λf=>.op (.Cd 1) [g f 0] λh=>.ca 178 [h] λj=>.nt [j] λk=>.A4 k (.rr [.slnil,ff,g b 2,g b 3]) (.ca 117 [g b 2,.func (.func 205) [] [.Cb [g f 0,g f 1,g f 2]]] λm=>.nt [m] λn=>.A4 n (.load (some 3) (.Cb [g f 0,g f 1,g f 2]) λo=>.op (.Cd 3) [o] λs=>.op (.append 3 40) [g b 2,s] λu=>.ia [g b 3,I 1] λw=>.rn [g b 0,g b 1,u,w]) (.ia [g b 3,I 1] λy=>.rn [g b 0,g b 1,g b 2,y]))) (.rx 0 [g b 0,g b 1,g b 2,g b 3])) (lx 0 (λz=>.rr [.tuple [g z 2,tt]]) λz=>.rr [.tuple [g z 0,g z 1]])
def jB:KC cx 172 qz:=λ_=>AQ
def q_(p q:Aa):IT:=
 .cells 4 p λa=>.ld q λb=>.op (.Cd 1) [b] λc=>.ca 127 [a4 a,c] λd=>.rr [d]
def jC:F7 cx 173 q_:=λ_ _=>AQ
def Ü(p:Aa):IT:=
 .cells 4 p λa=>.iq [g a 1,I 1] λb=>.A4 b (.rr [tt]) (.Ck 175 [g a 2] λc=>.nt [c] λd=>.rr [d])
def ay:KC cx 174 Ü:=λ_=>AQ
def Ý(p:Aa):IT:=
 .se [p,S aJu] λa=>.A4 a (.rr [tt]) (.se [p,S aJD] λb=>.A4 b (.rr [tt]) (.se [p,S aJI] λc=>.A4 c (.rr [tt]) (.se [p,S [116,100]] λd=>.A4 d (.rr [tt]) (.se [p,S aJE] λe=>.A4 e (.rr [tt]) (.se [p,S [116,104]] λf=>.A4 f (.rr [tt]) (.se [p,S aJJ] λh=>.A4 h (.rr [tt]) (.se [p,S [116,114]] λj=>.A4 j (.rr [tt]) (.Ck 157 [p] λk=>.rr [k]))))))))
def az:KC cx 175 Ý:=λ_=>AQ
def rh(p:Aa):IT:=
 .Ck 177 [p,S aJo] λa=>.rr [a]
def jD:KC cx 176 rh:=λ_=>AQ
def rj(p q:Aa):IT:=
 .ca 206 [q] λa=>.ln [a] λb=>.loop 2 [S [],I 0] (λc=>.il [g c 1,b] λd=>.A4 d (.ea 1 [a,g c 1] λe=>.ld e λf=>.Ck 182 [f] λh=>.se [h,p] λj=>.A4 j (.rr [f,g c 1]) (.ia [g c 1,I 1] λk=>.rn [g c 0,k])) (.rx 0 [g c 0,g c 1])) (lx 0 (λm=>.rr [p]) λm=>.rr [g m 0])
def jE:F7 cx 177 rj:=λ_ _=>AQ
def rk(p:Aa):IT:=
 .ln [p] λa=>.loop 2 [ff,I 0] (λb=>.il [g b 1,a] λc=>.A4 c (.ea 1 [p,g b 1] λd=>.ld d λe=>.il [e,I 0] λf=>.A4 f (.rr [ff,g b 1]) (.ig [e,I 7] λh=>.A4 h (.rr [ff,g b 1]) (.ia [g b 1,I 1] λj=>.rn [g b 0,j]))) (.rx 0 [g b 0,g b 1])) (lx 0 (λk=>.rr [tt]) λk=>.rr [g k 0])
def jF:KC cx 178 rk:=λ_=>AQ
def rl(p:Aa):IT:=
 .fa p 0 λ_ a=>.fl a 0 λ_ b=>.ie [b,I 4] λc=>.A4 c (.fa p 0 λ_ d=>.fl d 4 λ_ e=>.ie [e,I 1] λf=>.A4 f (.fa p 0 λ_ h=>.fl h 5 λ_ j=>.se [j,S aJq] λk=>.rr [k]) (.rr [ff])) (.rr [ff])
def jG:KC cx 179 rl:=λ_=>AQ
def uF(p q:Aa):IT:=
 .E4 p 1 λ_ _ a=>.mem (.wI i0 true) [a,q] λb=>.op (.ext 0) [b] λc=>.op (.ext 1) [b] λd=>.A4 d (.rr [c]) (.ca 43 [p,ff] λe=>.E4 p 1 λ_ _ f=>.op (.FN false .mp) [f,.map none] λh=>.A4 h (.NO λj=>.fa p 1 λ_ k=>.store 1 k j (.E4 p 1 λ_ _ m=>.E4 p 1 λ_ _ n=>.mem (.LW i0) [m,q] λo=>.op (.ext 1) [o] λs=>.mem .K8 [m,s,e] λ_=>.mem (.LW i0) [n,e] λu=>.op (.ext 1) [u] λw=>.mem .K8 [n,w,e] λ_=>.rr [e])) (.E4 p 1 λ_ _ y=>.E4 p 1 λ_ _ z=>.mem (.LW i0) [y,q] λa0=>.op (.ext 1) [a0] λa1=>.mem .K8 [y,a1,e] λ_=>.mem (.LW i0) [z,e] λa2=>.op (.ext 1) [a2] λa5=>.mem .K8 [z,a5,e] λ_=>.rr [e]))
def Sg:F7 cx 180 uF:=λ_ _=>AQ
def rp(p q r:Aa):IT:=
 .ln [p] λa=>.mem (.aD 1) [p,q,r,a] λ_=>.ie [q,r] λb=>.A4 b (.rr [p]) (.ln [p] λc=>.op (.P4 1 false false true) [p,q] λd=>.op (.P4 1 false true false) [p,r] λe=>.FG 1 8 d e λf=>.ln [f] λh=>.mem (.kL 1 true true) [f,h,c] λj=>.mem (.clear 1 [I 0]) [j] λ_=>.rr [f])
def jH:Pm cx 181 rp:=λ_ _ _=>AQ
def rq(p:Aa):IT:=
 .EE p λa=>.ln [a] λb=>.loop 3 [I 0] (λc=>.il [g c 0,b] λd=>.A4 d (.ea 1 [a,g c 0] λe=>.ld e λf=>.op (.conv .i32) [f] λh=>.Ck 207 [h] λj=>.A4 j (.ib [f,.int .u8 65] λk=>.ia [k,.int .u8 97] λm=>.ea 1 [a,g c 0] λn=>.store 1 n m (.ia [g c 0,I 1] λo=>.rn [o])) (.ia [g c 0,I 1] λs=>.rn [s])) (.rx 0 [g c 0])) (lx 0 (λu=>.Sn a λw=>.op .Uu [w] λy=>.rr [y]) λu=>.rr [S []])
def jI:KC cx 182 rq:=λ_=>AQ
def r_(p q:Aa):IT:=
 .ln [p] λa=>.loop 2 [I 0,I 0] (λb=>.il [g b 1,a] λc=>.A4 c (.ea 1 [p,g b 1] λd=>.ld d λe=>.se [q,e] λf=>.A4 f (.rr [g b 1,g b 1]) (.ia [g b 1,I 1] λh=>.rn [g b 0,h])) (.rx 0 [g b 0,g b 1])) (lx 0 (λj=>.rr [I (-1)]) λj=>.rr [g j 0])
def jJ:F7 cx 183 r_:=λ_ _=>AQ
def Þ(p q:Aa):IT:=
 .cells 1 q λa=>.ca 117 [p,.func (.func 196) [] [.Cb [g a 0]]] λb=>.nt [b] λc=>.rr [c]
def a_:F7 cx 195 Þ:=λ_ _=>AQ
def ß(p q:Aa):IT:=
 .cells 3 p λa=>.ld q λb=>.ca 197 [b,a3 a] λc=>.nt [c] λd=>.rr [d]
def bb:F7 cx 196 ß:=λ_ _=>AQ
def à(p q:Aa):IT:=
 .cells 3 q λa=>.ca 214 [p,a3 a] λb=>.ih [b,I 0] λc=>.rr [c]
def bc:F7 cx 197 à:=λ_ _=>AQ
def bd(p:Aa):IT:=
 .cells 1 p λa=>.ie [g a 0,I 4] λb=>.A4 b (.rr [.func (.func 215) [] []]) (.ie [g a 0,I 5] λc=>.A4 c (.rr [.func (.func 216) [] []]) (.rr [.func (.func 217) [] [.Cb [g a 0]]]))
def XC:KC cx 198 bd:=λ_=>AQ
def á(p q r:Aa):IT:=
 .cells 4 p λa=>.ld q λb=>.EK b [a4 a] λc=>.A4 c (.rr [tt]) (.ld r λd=>.EK d [a4 a] λe=>.rr [e])
def be:Pm cx 199 á:=λ_ _ _=>AQ
def â(p q r:Aa):IT:=
 .ln [p] λa=>.mem (.aD 3) [p,q,r,a] λ_=>.ie [q,r] λb=>.A4 b (.rr [p]) (.ln [p] λc=>.op (.P4 3 false false true) [p,q] λd=>.op (.P4 3 false true false) [p,r] λe=>.FG 3 48 d e λf=>.ln [f] λh=>.mem (.kL 3 true true) [f,h,c] λj=>.mem (.clear 3 [I 0,S [],.slnil]) [j] λ_=>.rr [f])
def bg:Pm cx 200 â:=λ_ _ _=>AQ
def ã(p q:Aa):IT:=
 .cells 4 p λa=>.ld q λb=>.ie [g a 0,b] λc=>.rr [c]
def bh:F7 cx 201 ã:=λ_ _=>AQ
def sa(p q r:Aa):IT:=
 .cells 4 r λa=>.ca 109 [p,q] λb=>.il [b,I 1] λc=>.A4 c (.HA 0 p (.rr [ff])) (.E4 p 0 λ_ _ d=>.ca 218 [d] λe=>.fa p 0 λ_ f=>.store 1 f e (.E4 p 0 λ_ _ h=>.ea 4 [h,b] λj=>.store 4 j (a4 a) (.HA 0 p (.rr [tt]))))
def jK:Pm cx 202 sa:=λ_ _ _=>AQ
def sc(p q r:Aa):IT:=
 .cells 3 r λa=>.ca 114 [p,q] λb=>.il [b,I 0] λc=>.A4 c (.HA 0 p (.rr [ff])) (.E4 p 0 λ_ _ d=>.ca 110 [d] λe=>.fa p 0 λ_ f=>.store 1 f e (.E4 p 0 λ_ h j=>.ca 153 [a3 a] λk=>.ld h λm=>.same j m (.ea 3 [j,b] λn=>.store 3 n k (.HA 0 p (.rr [tt])))))
def jL:Pm cx 203 sc:=λ_ _ _=>AQ
def ä(p q:Aa):IT:=
 .op (.P4 4 false false true) [p,q] λa=>.op (.append 4 40) [.slnil,a] λb=>.ia [q,I 1] λc=>.op (.P4 4 false true false) [p,c] λd=>.op (.append 4 40) [b,d] λe=>.rr [e]
def bj:F7 cx 204 ä:=λ_ _=>AQ
def sd(p q:Aa):IT:=
 .cells 3 p λa=>.fl q 0 λ_ b=>.ie [b,g a 0] λc=>.A4 c (.fl q 1 λ_ d=>.se [d,g a 1] λe=>.rr [e]) (.rr [ff])
def jM:F7 cx 205 sd:=λ_ _=>AQ
def å(p:Aa):IT:=
 .loop 5 [I 0,I 1,.int .u8 0,I 0] (λa=>.lt [p] λb=>.il [g a 3,b] λc=>.A4 c (.op .X7 [p,g a 3] λd=>.op (.int .or) [g a 2,d] λe=>.op (.Sm 256 1) [.Cb IP,d] λf=>.ld f λh=>.op (.conv .i64) [h] λj=>.op (.un .xor) [j] λk=>.op (.int .and) [g a 1,k] λm=>.ia [g a 0,m] λn=>.ia [g a 3,I 1] λo=>.rn [n,j,e,o]) (.rx 0 [g a 0,g a 1,g a 2,g a 3])) (lx 0 (λs=>.ih [g s 2,.int .u8 128] λu=>.A4 u (.ca 219 [p,.func (.func 220) [] []] λw=>.Sn w λy=>.rr [y]) (.make 1 16 [S []] (g s 0) (g s 0) λz=>.loop 18 [I 0] (λa0=>.lt [p] λa1=>.il [g a0 0,a1] λa2=>.A4 a2 (.op .X7 [p,g a0 0] λa5=>.op (.Sm 256 1) [.Cb IP,a5] λa7=>.ld a7 λa8=>.iq [a8,.int .u8 0] λb0=>.A4 b0 (.ia [g a0 0,I 1] λb1=>.rn [b1]) (.rx 2 [g a0 0])) (.rx 2 [g a0 0])) (lx 2 (λb2=>.loop 21 [I 0,g b2 0,g b2 0] (λb3=>.lt [p] λb4=>.il [g b3 2,b4] λb5=>.A4 b5 (.op .X7 [p,g b3 2] λb6=>.op (.Sm 256 1) [.Cb IP,b6] λb7=>.ld b7 λb8=>.ie [b8,.int .u8 0] λb9=>.A4 b9 (.ia [g b3 2,I 1] λc1=>.rn [g b3 0,g b3 1,c1]) (.op (.P4 0 true true true) [p,g b3 1,g b3 2] λc2=>.ea 1 [z,g b3 0] λc3=>.store 1 c3 c2 (.ia [g b3 0,I 1] λc4=>.ia [g b3 2,I 1] λc5=>.loop 27 [c5] (λc6=>.lt [p] λc7=>.il [g c6 0,c7] λc8=>.A4 c8 (.op .X7 [p,g c6 0] λc9=>.op (.Sm 256 1) [.Cb IP,c9] λd0=>.ld d0 λd1=>.iq [d1,.int .u8 0] λd2=>.A4 d2 (.ia [g c6 0,I 1] λd3=>.rn [d3]) (.rx 6 [g c6 0])) (.rx 6 [g c6 0])) (λx d4=>match x with| .normal=>.fail| .exit i=>if i=6 then .rn [c4,g d4 0,g d4 0] else if i=5 then .rn [c4,g b3 1,g d4 0] else .ret (.exit i) [c4,g b3 1,g d4 0]| .ret=>.rr [c4,g b3 1,g d4 0])))) (.rx 4 [g b3 0,g b3 1,g b3 2])) (lx 4 (λd5=>.lt [p] λd6=>.il [g d5 1,d6] λd7=>.A4 d7 (.op (.P4 0 true true false) [p,g d5 1] λd8=>.ea 1 [z,g d5 0] λd9=>.store 1 d9 d8 (.Sn z λe0=>.rr [e0])) (.Sn z λe1=>.rr [e1])) λd5=>.Sn .slnil λe2=>.rr [e2])) λb2=>.Sn .slnil λe3=>.rr [e3]))) λs=>.Sn .slnil λe4=>.rr [e4])
def bk:KC cx 206 å:=λ_=>AQ
def sg(p:Aa):IT:=
 .ca 221 [.int .i32 65,.int .i32 90] λa=>.EK a [p] λb=>.rr [b]
def jN:KC cx 207 sg:=λ_=>AQ
def æ(p q:Aa):IT:=
 .cells 3 q λa=>.ln [p] λb=>.loop 2 [I 0,I 0] (λc=>.il [g c 1,b] λd=>.A4 d (.ea 3 [p,g c 1] λe=>.load (some 3) e λf=>.op (.geq false [.i,.s,.s]) [a3 a,f] λh=>.A4 h (.rr [g c 1,g c 1]) (.ia [g c 1,I 1] λj=>.rn [g c 0,j])) (.rx 0 [g c 0,g c 1])) (lx 0 (λk=>.rr [I (-1)]) λk=>.rr [g k 0])
def bl:F7 cx 214 æ:=λ_ _=>AQ
def ç(p:Aa):IT:=
 .cells 4 p λa=>.op (.Cd 1) [S aJv,S aJs,S aJq] λb=>.ca 127 [a4 a,b] λc=>.rr [c]
def bm:KC cx 215 ç:=λ_=>AQ
def è(p:Aa):IT:=
 .cells 4 p λa=>.op (.Cd 1) [S aJx,S aJH] λb=>.ca 127 [a4 a,b] λc=>.nt [c] λd=>.rr [d]
def bn:KC cx 216 è:=λ_=>AQ
def é(p q:Aa):IT:=
 .cells 4 p λa=>.ie [g a 1,I 3] λb=>.A4 b (.Ck 113 [g a 1,g a 2] λc=>.rr [c]) (.ie [g a 1,I 2] λd=>.A4 d (.Ck 113 [g a 1,g a 2] λe=>.rr [e]) (.op (.Cd 1) [S aJV,S aJu,S aJv,S aJS,S aJY,S aJs,S [116,100],S aJq,S [116,104]] λf=>.ca 127 [a4 a,f] λh=>.A4 h (.rr [tt]) (.ld q λj=>.ie [j,I 2] λk=>.A4 k (.op (.Cd 1) [S [111,108],S [117,108]] λm=>.ca 127 [a4 a,m] λn=>.A4 n (.rr [tt]) (.ld q λo=>.ie [o,I 3] λs=>.A4 s (.op (.Cd 1) [S aJw] λu=>.ca 127 [a4 a,u] λw=>.rr [w]) (.rr [ff]))) (.ld q λy=>.ie [y,I 3] λz=>.A4 z (.op (.Cd 1) [S aJw] λa0=>.ca 127 [a4 a,a0] λa1=>.rr [a1]) (.rr [ff])))))
def bo:F7 cx 217 é:=λ_ _=>AQ
def ê(p:Aa):IT:=
 .op (.FN false .sl) [p,.slnil] λa=>.A4 a (.rr [.slnil]) (.op (.Cd 4) [] λb=>.IE 4 40 b p λc=>.rr [c])
def bp:KC cx 218 ê:=λ_=>AQ
def ë(p q:Aa):IT:=
 .make 2 16 [I 0,I 0] i0 (I 32) λ_=>.fail
def bq:F7 cx 219 ë:=λ_ _=>AQ
def sj(p q:Aa):IT:=
 .cells 1 p λa=>.cells 1 q λb=>.rr [.func (.func 231) [] [.Cb [g a 0],.Cb [g b 0]]]
def jO:F7 cx 221 sj:=λ_ _=>AQ
def sk(p q r:Aa):IT:=
 .ld q λa=>.ik [a,p] λb=>.A4 b (.ld r λc=>.ik [p,c] λd=>.rr [d]) (.rr [ff])
def jP:Pm cx 231 sk:=λ_ _ _=>AQ
def Si(p:Aa):IT:=
 .op (.FN false .sl) [p,.slnil] λa=>.A4 a (.rr [.slnil]) (.op (.Cd 3) [] λb=>.IE 3 40 b p λc=>.rr [c])
def OI:KC cx 100027 Si:=λ_=>AQ
end Go.Am
