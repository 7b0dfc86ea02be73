/- Lemmas -/
import Derived.Test.YtmfdhadocnndiaaGreatDoorS9
import Derived.Test.YtmfdhadocnndiaaGreatDoorS18
set_option linter.all false
namespace Go.Am
open Go
def uz(p q:Aa):IT:=
 .op (.UB false) [p,.ptr none] λa=>.AM a (.rr [I 1]) (.ln [q] λb=>.loop 4 [I 0,I 0] (λc=>.il [g c 1,b] λd=>.AM d (.ea 1 [q,g c 1] λe=>.ld e λf=>.ca 72 [p,f] λh=>.nt [h] λj=>.AM j (.rr [I 3,g c 1]) (.ia [g c 1,I 1] λk=>.rn [g c 0,k])) (.rx 0 [g c 0,g c 1])) (lx 0 (λm=>.rr [I 0]) λm=>.rr [g m 0]))
def jO:Gl cx 118 uz:=λ_ _=>AU
def u_(p q r:Aa):IT:=
 .cells 13 r λa=>.ca 156 [p,q] λb=>.iq [b,I 0] λc=>.AM c (.rr [.tuple [I 0,b]]) (.cells 1 q λd=>.ca 75 [p,.agg [g a 0,g a 1,g a 2,g d 0,g a 4,g a 5,g a 6,g a 7,g a 8,g a 9,g a 10,g a 11,g a 12]] λe=>.rr [.tuple [e,I 0]])
def jP:QI cx 119 u_:=λ_ _ _=>AU
def va(p q:Aa):IT:=
 .ca 164 [p,q] λa=>.ih [a,I 0] λb=>.rr [b]
def jQ:Gl cx 120 va:=λ_ _=>AU
def cz(p q:Aa):IT:=
 .ca 72 [p,q] λa=>.nt [a] λb=>.AM b (.rr [.slnil]) (.ca 76 [p,q] λc=>.fa c 0 λ_ d=>.fl d 2 λ_ e=>.ca 105 [e] λf=>.rr [f])
def XK:Gl cx 121 cz:=λ_ _=>AU
def vd(p q:Aa):IT:=
 .ld q λa=>.ca 62 [a,p] λb=>.op (.part 0 none) [b] λc=>.ie [c,I 4] λd=>.rr [d]
def jR:Gl cx 122 vd:=λ_ _=>AU
def XL(p q r u:Aa):IT:=
 .op (.Cb 1) [q,r] λa=>.ca 118 [p,a] λb=>.iq [b,I 0] λc=>.AM c (.rr [b]) (.DW 200004 (.iq [u,I 0] λd=>.AM d (.ca 72 [p,u] λe=>.nt [e] λf=>.rn [f]) (.rn [ff])) (nx (λh=>.AM (g h 0) (.rr [I 3]) (.ca 76 [p,q] λj=>.ca 76 [p,r] λk=>.DW 200007 (.fa j 0 λ_ m=>.fl m 0 λ_ n=>.iq [n,I 1] λo=>.AM o (.fa j 0 λ_ s=>.fl s 0 λ_ w=>.iq [w,I 2] λy=>.AM y (.fa j 0 λ_ z=>.fl z 0 λ_ a0=>.iq [a0,I 4] λa1=>.rn [a1]) (.rn [ff])) (.rn [ff])) (λx a2=>match x with| .normal=>.AM (g a2 0) (.rr [I 4]) (.fa k 0 λ_ a5=>.fl a5 0 λ_ a7=>.ie [a7,I 1] λa8=>.AM a8 (.rr [I 4]) (.fa k 0 λ_ b0=>.fl b0 0 λ_ b1=>.ie [b1,I 2] λb2=>.AM b2 (.rr [I 4]) (.ca 165 [p,r,q] λb3=>.AM b3 (.rr [I 4]) (.DW 200012 (.iq [u,I 0] λb4=>.AM b4 (.ie [u,r] λb5=>.AM b5 (.rn [tt]) (.ca 76 [p,u] λb6=>.fa b6 0 λ_ b7=>.fl b7 1 λ_ b8=>.iq [b8,q] λb9=>.rn [b9])) (.rn [ff])) (λx c0=>match x with| .normal=>.AM (g c0 0) (.rr [I 5]) (.ca 166 [p,r] λ_=>.fa j 0 λ_ c1=>.fl c1 2 λ_ c2=>.ln [c2] λc3=>.iq [u,I 0] λc4=>.DW 100103 (.AM c4 (.fa j 0 λ_ c5=>.fl c5 2 λ_ c7=>.ca 63 [c7,u] λc8=>.rn [c8]) (.rn [c3])) (nx (λc9=>.fa j 0 λ_ d0=>.fl d0 2 λ_ d1=>.op (.Cb 1) [r] λd2=>.mem .mE [d1,g c9 0,d2] λd3=>.fa j 0 λ_ d4=>.op (.FB 2) [d4] λd5=>.store 1 d5 d3 (.fa k 0 λ_ d6=>.op (.FB 1) [d6] λd7=>.store 1 d7 q (.rr [I 0]))) λc9=>.rr [I 0]))| .exit i=>if i=0 then .ca 166 [p,r] λ_=>.fa j 0 λ_ d8=>.fl d8 2 λ_ d9=>.ln [d9] λe0=>.iq [u,I 0] λe1=>.DW 100103 (.AM e1 (.fa j 0 λ_ e2=>.fl e2 2 λ_ e3=>.ca 63 [e3,u] λe4=>.rn [e4]) (.rn [e0])) (nx (λe5=>.fa j 0 λ_ e6=>.fl e6 2 λ_ e7=>.op (.Cb 1) [r] λe8=>.mem .mE [e7,g e5 0,e8] λe9=>.fa j 0 λ_ f0=>.op (.FB 2) [f0] λf1=>.store 1 f1 e9 (.fa k 0 λ_ f2=>.op (.FB 1) [f2] λf3=>.store 1 f3 q (.rr [I 0]))) λe5=>.rr [I 0]) else .fail| .ret=>.rr [I 0])))))| .exit i=>if i=0 then .ca 166 [p,r] λ_=>.fa j 0 λ_ f4=>.fl f4 2 λ_ f5=>.ln [f5] λf6=>.iq [u,I 0] λf7=>.DW 100103 (.AM f7 (.fa j 0 λ_ f8=>.fl f8 2 λ_ f9=>.ca 63 [f9,u] λh0=>.rn [h0]) (.rn [f6])) (nx (λh1=>.fa j 0 λ_ h2=>.fl h2 2 λ_ h3=>.op (.Cb 1) [r] λh4=>.mem .mE [h3,g h1 0,h4] λh5=>.fa j 0 λ_ h6=>.op (.FB 2) [h6] λh7=>.store 1 h7 h5 (.fa k 0 λ_ h8=>.op (.FB 1) [h8] λh9=>.store 1 h9 q (.rr [I 0]))) λh1=>.rr [I 0]) else .fail| .ret=>.rr [I 0]))) λh=>.rr [I 0]))
def K9:ú cx 123 XL:=λ_ _ _ _=>AU
def ve(p q:Aa):IT:=
 .ca 168 [p,q] λa=>.ih [a,I 0] λb=>.rr [b]
def jS:Gl cx 124 ve:=λ_ _=>AU
def vf(p q:Aa):IT:=
 .op (.UB false) [p,.ptr none] λa=>.AM a (.rr [I (-1)]) (.CC p 0 λ_ _ b=>.ln [b] λc=>.ib [c,I 1] λd=>.loop 4 [I 0,d] (λe=>.ih [g e 1,I 0] λf=>.AM f (.CC p 0 λ_ _ h=>.ea 3 [h,g e 1] λj=>.fl j 0 λ_ k=>.iq [k,I 0] λm=>.AM m (.CC p 0 λ_ _ n=>.ea 3 [n,g e 1] λo=>.fl o 1 λ_ s=>.se [s,q] λu=>.AM u (.rr [g e 1,g e 1]) (.ib [g e 1,I 1] λw=>.rn [g e 0,w])) (.rx 0 [g e 0,g e 1])) (.rx 0 [g e 0,g e 1])) (lx 0 (λy=>.rr [I (-1)]) λy=>.rr [g y 0]))
def jT:Gl cx 125 vf:=λ_ _=>AU
def vg(p q r:Aa):IT:=
 .fa q 3 λ_ a=>.fl a 0 λ_ b=>.ca 85 [b] λc=>.ia [r,I 1] λd=>.ca 169 [c,r,d] λe=>.fa q 3 λ_ f=>.op (.FB 0) [f] λh=>.store 1 h e (.CC p 3 λ_ _ j=>.il [r,j] λk=>.AM k (.CC p 3 λ_ _ m=>.ib [m,I 1] λn=>.fa p 3 λ_ o=>.store 1 o n (.CC p 4 λ_ _ s=>.il [r,s] λu=>.AM u (.CC p 4 λ_ _ w=>.ib [w,I 1] λy=>.fa p 4 λ_ z=>.store 1 z y (.HJ 3 q (.rr [.tuple []]))) (.HJ 3 q (.rr [.tuple []])))) (.CC p 4 λ_ _ a0=>.il [r,a0] λa1=>.AM a1 (.CC p 4 λ_ _ a2=>.ib [a2,I 1] λa5=>.fa p 4 λ_ a7=>.store 1 a7 a5 (.HJ 3 q (.rr [.tuple []]))) (.HJ 3 q (.rr [.tuple []]))))
def jU:QI cx 126 vg:=λ_ _ _=>AU
def t127(p q r:Aa):IT:=
 .cells 1 r λa=>.ca 141 [p,q,.func (.func 170) [] [.B3 [g a 0]]] λb=>.rr [b]
def jV:QI cx 127 t127:=λ_ _ _=>AU
def vh(p q:Aa):IT:=
 .ca 84 [p,q] λa=>.ia [a,I 1] λb=>.loop 3 [I 0,b] (λc=>.ih [a,I 0] λd=>.AM d (.ca 10 [p] λe=>.il [g c 1,e] λf=>.AM f (.CC p 0 λ_ _ h=>.ea 4 [h,g c 1] λj=>.fl j 1 λ_ k=>.CC p 0 λ_ _ m=>.ea 4 [m,g c 1] λn=>.fl n 2 λ_ o=>.Cx 88 [k,o] λs=>.AM s (.rr [g c 1,g c 1]) (.ia [g c 1,I 1] λu=>.rn [g c 0,u])) (.rx 0 [g c 0,g c 1])) (.rx 0 [g c 0,g c 1])) (lx 0 (λw=>.rr [I (-1)]) λw=>.rr [g w 0])
def jW:Gl cx 128 vh:=λ_ _=>AU
def vi(p q r u:Aa):IT:=
 .ib [u,I 1] λa=>.loop 2 [I 0,a] (λb=>.ig [g b 1,r] λc=>.AM c (.fa p 2 λ_ d=>.ca 8 [d,g b 1] λe=>.cells 4 e λf=>.ia [g b 0,I 1] λh=>.fa p 3 λ_ j=>.ca 70 [j,g f 0] λk=>.DW 200007 (.ig [h,I 3] λm=>.AM m (.ih [k,I 0] λn=>.rn [n]) (.rn [ff])) (λx o=>match x with| .normal=>.DW 100039 (.AM (g o 0) (.ca 126 [q,p,k] λ_=>.fa p 3 λ_ s=>.ca 70 [s,g f 0] λw=>.rn [w]) (.rn [k])) (λx y=>match x with| .normal=>.il [g y 0,I 0] λz=>.AM z (.fa p 2 λ_ a0=>.ca 131 [a0,g f 0] λ_=>.ib [g b 1,I 1] λa1=>.rn [h,a1]) (.fa p 3 λ_ a2=>.fl a2 0 λ_ a5=>.ea 3 [a5,g y 0] λa7=>.load (some 3) a7 λa8=>.cells 3 a8 λb0=>.fa q 5 λ_ b1=>.fl b1 0 λb2 b3=>.ca 86 [a3 b0] λb4=>.ld b2 λb5=>.same b3 b5 (.ca 43 [p,b4,I 1,b3] λb6=>.cells 4 b6 λb7=>.fa p 2 λ_ b8=>.ca 171 [b8,g f 0,a4 b7] λ_=>.fa p 3 λ_ b9=>.op (.B0 [I 0,S [],.slnil] [(0,1),(1,1),(2,1)]) [g b7 0,g b0 1,g b0 2] λc0=>.ca 172 [b9,g f 0,c0] λ_=>.CC q 13 λ_ _ c2=>.fa q 9 λ_ c3=>.fl c3 0 λ_ c4=>.ie [c2,c4] λc5=>.DW 100104 (.AM c5 (.ia [g y 0,I 1] λc7=>.fa q 4 λ_ c8=>.store 1 c8 c7 (.rn [])) (.rn [])) (λx _=>match x with| .normal=>.CC q 13 λ_ _ c9=>.ca 67 [p,c9,g b7 0,I 0] λ_=>.fa q 13 λ_ d0=>.store 1 d0 (g b7 0) (.ib [g b 1,I 1] λd1=>.rn [h,d1])| .exit i=>if i=1 then .ib [g b 1,I 1] λd2=>.rn [h,d2] else .ret (.exit i) [h,g b 1]| .ret=>.rr [h,g b 1])))| .exit i=>if i=1 then .ib [g b 1,I 1] λd3=>.rn [h,d3] else .ret (.exit i) [h,g b 1]| .ret=>.rr [h,g b 1])| .exit i=>if i=1 then .ib [g b 1,I 1] λd4=>.rn [h,d4] else .ret (.exit i) [h,g b 1]| .ret=>.rr [h,g b 1])) (.rx 0 [g b 0,g b 1])) (lx 0 (λd5=>.rr [.tuple []]) λd5=>.rr [.tuple []])
def jX:ú cx 129 vi:=λ_ _ _ _=>AU
def vj(p q r:Aa):IT:=
 .cells 3 q λa=>.op (.UB true) [p,.ptr none] λb=>.AM b (.CC p 0 λ_ c d=>.op (.JM true) [r,I 0] λe=>.CC p 0 λ_ f h=>.ln [h] λj=>.op (.JM false) [e,j] λk=>.ca 115 [a3 a] λm=>.ld f λn=>.same h n (.ld c λo=>.same d o (.ca 95 [d,m,k] λs=>.fa p 0 λ_ u=>.store 1 u s (.rr [.tuple []])))) (.rr [.tuple []])
def jY:QI cx 130 vj:=λ_ _ _=>AU
def c_(p q:Aa):IT:=
 .ca 84 [p,q] λa=>.il [a,I 1] λb=>.AM b (.rr [ff]) (.CC p 0 λ_ _ c=>.ca 173 [c,a] λd=>.fa p 0 λ_ e=>.store 1 e d (.rr [tt]))
def XM:Gl cx 131 c_:=λ_ _=>AU
def vn(p q r:Aa):IT:=
 .cells 4 q λa=>.op (.UB true) [p,.ptr none] λb=>.AM b (.CC p 0 λ_ _ c=>.op (.JM true) [r,I 1] λd=>.CC p 0 λ_ _ e=>.ln [e] λf=>.op (.JM false) [d,f] λh=>.ca 137 [c,a4 a,h] λj=>.fa p 0 λ_ k=>.store 1 k j (.rr [.tuple []])) (.rr [.tuple []])
def jZ:QI cx 132 vn:=λ_ _ _=>AU
def vo(p q r:Aa):IT:=
 .cells 4 q λa=>.op (.Qo 4 false false true) [p,r] λb=>.op (.append 4 40) [.slnil,b] λc=>.op (.Cb 4) [a4 a] λd=>.op (.append 4 40) [c,d] λe=>.op (.Qo 4 false true false) [p,r] λf=>.op (.append 4 40) [e,f] λh=>.rr [h]
def kC:QI cx 137 vo:=λ_ _ _=>AU
def wD(p q:Aa):IT:=
 .ln [p] λa=>.loop 2 [I 0,I 0] (λb=>.il [g b 1,a] λc=>.AM c (.ea 3 [p,g b 1] λd=>.load (some 3) d λe=>.Es q [e] λf=>.AM f (.rr [g b 1,g b 1]) (.ia [g b 1,I 1] λh=>.rn [g b 0,h])) (.rx 0 [g b 0,g b 1])) (lx 0 (λj=>.rr [I (-1)]) λj=>.rr [g j 0])
def Su:Gl cx 138 wD:=λ_ _=>AU
def vp(p:Aa):IT:=
 .cells 3 p λa=>.ie [g a 0,I 0] λb=>.AM b (.se [g a 1,S aMi] λc=>.rr [c]) (.rr [ff])
def kD:IZ cx 139 vp:=λ_=>AU
def vq(p q:Aa):IT:=
 .Cx 181 [p] λa=>.Cx 181 [q] λb=>.se [a,b] λc=>.rr [c]
def kE:Gl cx 140 vq:=λ_ _=>AU
def vr(p q r:Aa):IT:=
 .cells 1 r λa=>.ca 182 [q] λb=>.cells 1 b λc=>.ca 145 [p,.func (.func 183) [] [.B3 [g a 0],.B3 [g c 0]]] λd=>.ih [d,I 0] λe=>.AM e (.ld (.B3 [g a 0]) λf=>.CC p 0 λ_ _ h=>.ea 4 [h,d] λj=>.load (some 4) j λk=>.Es f [k] λm=>.rr [m]) (.rr [ff])
def kF:QI cx 141 vr:=λ_ _ _=>AU
def ė(p q:Aa):IT:=
 .cells 4 p λa=>.ld q λb=>.ca 100 [a4 a,b] λc=>.rr [c]
def da:Gl cx 142 ė:=λ_ _=>AU
def vt(p q:Aa):IT:=
 .cells 4 p λa=>.iq [g a 1,I 1] λb=>.AM b (.rr [tt]) (.Cx 144 [g a 2] λc=>.nt [c] λd=>.AM d (.rr [tt]) (.ld q λe=>.se [g a 2,e] λf=>.rr [f]))
def kG:Gl cx 143 vt:=λ_ _=>AU
def vu(p:Aa):IT:=
 .se [p,S [100,100]] λa=>.AM a (.rr [tt]) (.se [p,S [100,116]] λb=>.AM b (.rr [tt]) (.se [p,S [108,105]] λc=>.AM c (.rr [tt]) (.se [p,S aLP] λd=>.AM d (.rr [tt]) (.se [p,S aLZ] λe=>.AM e (.rr [tt]) (.se [p,S [112]] λf=>.AM f (.rr [tt]) (.se [p,S [114,98]] λh=>.AM h (.rr [tt]) (.se [p,S [114,112]] λj=>.AM j (.rr [tt]) (.se [p,S [114,116]] λk=>.AM k (.rr [tt]) (.se [p,S [114,116,99]] λm=>.AM m (.rr [tt]) (.rr [ff]))))))))))
def kH:IZ cx 144 vu:=λ_=>AU
def vw(p q:Aa):IT:=
 .ca 10 [p] λa=>.ib [a,I 1] λb=>.loop 2 [I 0,b] (λc=>.ih [g c 1,I 0] λd=>.AM d (.CC p 0 λ_ _ e=>.ea 4 [e,g c 1] λf=>.load (some 4) f λh=>.Es q [h] λj=>.AM j (.rr [g c 1,g c 1]) (.ib [g c 1,I 1] λk=>.rn [g c 0,k])) (.rx 0 [g c 0,g c 1])) (lx 0 (λm=>.rr [I (-1)]) λm=>.rr [g m 0])
def kI:Gl cx 145 vw:=λ_ _=>AU
def t146(p q:Aa):IT:=
 .cells 4 p λa=>.ld q λb=>.ie [g a 0,b] λc=>.rr [c]
def kJ:Gl cx 146 t146:=λ_ _=>AU
def vy(p q:Aa):IT:=
 .cells 4 p λa=>.ld q λb=>.ie [g a 0,b] λc=>.rr [c]
def kK:Gl cx 147 vy:=λ_ _=>AU
def t148(p q:Aa):IT:=
 .ie [p,I 3] λa=>.AM a (.se [q,S [109,105]] λb=>.AM b (.rr [tt]) (.se [q,S [109,110]] λc=>.AM c (.rr [tt]) (.se [q,S [109,111]] λd=>.AM d (.rr [tt]) (.se [q,S [109,115]] λe=>.AM e (.rr [tt]) (.se [q,S [109,116,101,120,116]] λf=>.rr [f]))))) (.rr [ff])
def kL:Gl cx 148 t148:=λ_ _=>AU
def vz:IT:=
 .op (.B0 [S [],I 0] [(0,1),(1,1)]) [S [116,114],I 14] λa=>.op (.B0 [S [],I 0] [(0,1),(1,1)]) [S aL0,I 13] λb=>.op (.B0 [S [],I 0] [(0,1),(1,1)]) [S aL1,I 13] λc=>.op (.B0 [S [],I 0] [(0,1),(1,1)]) [S aLW,I 13] λd=>.op (.B0 [S [],I 0] [(0,1),(1,1)]) [S aLM,I 11] λe=>.op (.B0 [S [],I 0] [(0,1),(1,1)]) [S aLV,I 12] λf=>.op (.B0 [S [],I 0] [(0,1),(1,1)]) [S aLK,I 9] λh=>.op (.B0 [S [],I 0] [(0,1),(1,1)]) [S [98,111,100,121],I 7] λj=>.op (.B0 [S [],I 0] [(0,1),(1,1)]) [S aMj,I 20] λk=>.op (.Cb 2) [a,b,c,d,e,f,h,j,k] λm=>.rr [m]
def kM:BY cx 149 []=vz:=AU
def v_(p q:Aa):IT:=
 .ib [q,I 1] λa=>.loop 2 [I 0,a] (λb=>.ih [g b 1,I 0] λc=>.AM c (.fa p 2 λ_ d=>.ca 8 [d,g b 1] λe=>.op (.Cb 1) [S aLI] λf=>.ca 69 [e,f] λh=>.AM h (.rx 0 [g b 0,g b 1]) (.fa p 2 λ_ j=>.ca 8 [j,g b 1] λk=>.op (.Cb 1) [S aLK] λm=>.ca 69 [k,m] λn=>.AM n (.rr [I 17,g b 1]) (.ib [g b 1,I 1] λo=>.rn [g b 0,o]))) (.rx 0 [g b 0,g b 1])) (lx 0 (λs=>.rr [I 16]) λs=>.rr [g s 0])
def kN:Gl cx 150 v_:=λ_ _=>AU
def wb(p q:Aa):IT:=
 .cells 4 p λa=>.ld q λb=>.op (.Cb 1) [b] λc=>.ca 100 [a4 a,c] λd=>.rr [d]
def kO:Gl cx 151 wb:=λ_ _=>AU
def Ę(p:Aa):IT:=
 .cells 4 p λa=>.iq [g a 1,I 1] λb=>.AM b (.rr [tt]) (.Cx 153 [g a 2] λc=>.nt [c] λd=>.rr [d])
def db:IZ cx 152 Ę:=λ_=>AU
def ę(p:Aa):IT:=
 .se [p,S aLM] λa=>.AM a (.rr [tt]) (.se [p,S aLV] λb=>.AM b (.rr [tt]) (.se [p,S aL0] λc=>.AM c (.rr [tt]) (.se [p,S [116,100]] λd=>.AM d (.rr [tt]) (.se [p,S aLW] λe=>.AM e (.rr [tt]) (.se [p,S [116,104]] λf=>.AM f (.rr [tt]) (.se [p,S aL1] λh=>.AM h (.rr [tt]) (.se [p,S [116,114]] λj=>.AM j (.rr [tt]) (.Cx 144 [p] λk=>.rr [k]))))))))
def dd:IZ cx 153 ę:=λ_=>AU
def wc(p:Aa):IT:=
 .Cx 155 [p,S aLG] λa=>.rr [a]
def kP:IZ cx 154 wc:=λ_=>AU
def we(p q:Aa):IT:=
 .ca 184 [q] λa=>.ln [a] λb=>.loop 2 [S [],I 0] (λc=>.il [g c 1,b] λd=>.AM d (.ea 1 [a,g c 1] λe=>.ld e λf=>.Cx 181 [f] λh=>.se [h,p] λj=>.AM j (.rr [f,g c 1]) (.ia [g c 1,I 1] λk=>.rn [g c 0,k])) (.rx 0 [g c 0,g c 1])) (lx 0 (λm=>.rr [p]) λm=>.rr [g m 0])
def kQ:Gl cx 155 we:=λ_ _=>AU
def wg(p q:Aa):IT:=
 .op (.Cb 1) [q] λa=>.ca 118 [p,a] λb=>.iq [b,I 0] λc=>.AM c (.rr [b]) (.ca 76 [p,q] λd=>.fa d 0 λ_ e=>.fl e 0 λ_ f=>.iq [f,I 1] λh=>.AM h (.rr [I 9]) (.rr [I 0]))
def kR:Gl cx 156 wg:=λ_ _=>AU
def wE(p q:Aa):IT:=
 .CC p 1 λ_ _ a=>.mem (.yW i0 true) [a,q] λb=>.op (.ext 0) [b] λc=>.op (.ext 1) [b] λd=>.AM d (.rr [c]) (.ca 24 [p,ff] λe=>.CC p 1 λ_ _ f=>.op (.Gb false .mp) [f,.map none] λh=>.AM h (.N4 λj=>.fa p 1 λ_ k=>.store 1 k j (.CC p 1 λ_ _ m=>.CC p 1 λ_ _ n=>.mem (.L6 i0) [m,q] λo=>.op (.ext 1) [o] λs=>.mem .Lc [m,s,e] λ_=>.mem (.L6 i0) [n,e] λu=>.op (.ext 1) [u] λw=>.mem .Lc [n,w,e] λ_=>.rr [e])) (.CC p 1 λ_ _ y=>.CC p 1 λ_ _ z=>.mem (.L6 i0) [y,q] λa0=>.op (.ext 1) [a0] λa1=>.mem .Lc [y,a1,e] λ_=>.mem (.L6 i0) [z,e] λa2=>.op (.ext 1) [a2] λa5=>.mem .Lc [z,a5,e] λ_=>.rr [e]))
def Sv:Gl cx 157 wE:=λ_ _=>AU
def wh(p q:Aa):IT:=
 .cells 3 p λa=>.fl q 0 λ_ b=>.ie [b,g a 0] λc=>.AM c (.fl q 1 λ_ d=>.se [d,g a 1] λe=>.rr [e]) (.rr [ff])
def kS:Gl cx 158 wh:=λ_ _=>AU
def wj(p q:Aa):IT:=
 .cells 1 q λa=>.ca 90 [p,.func (.func 161) [] [.B3 [g a 0]]] λb=>.nt [b] λc=>.rr [c]
def kT:Gl cx 160 wj:=λ_ _=>AU
def wk(p q:Aa):IT:=
 .cells 3 p λa=>.ld q λb=>.ca 162 [b,a3 a] λc=>.nt [c] λd=>.rr [d]
def kU:Gl cx 161 wk:=λ_ _=>AU
def wm(p q:Aa):IT:=
 .cells 3 q λa=>.ca 185 [p,a3 a] λb=>.ih [b,I 0] λc=>.rr [c]
def kW:Gl cx 162 wm:=λ_ _=>AU
def de(p q:Aa):IT:=
 .ca 72 [p,q] λa=>.nt [a] λb=>.AM b (.rr [I 0]) (.ca 76 [p,q] λc=>.fa c 0 λ_ d=>.fl d 1 λ_ e=>.rr [e])
def XN:Gl cx 163 de:=λ_ _=>AU
def t164(p q:Aa):IT:=
 .ln [p] λa=>.loop 2 [I 0,I 0] (λb=>.il [g b 1,a] λc=>.AM c (.ea 1 [p,g b 1] λd=>.ld d λe=>.Es q [e] λf=>.AM f (.rr [g b 1,g b 1]) (.ia [g b 1,I 1] λh=>.rn [g b 0,h])) (.rx 0 [g b 0,g b 1])) (lx 0 (λj=>.rr [I (-1)]) λj=>.rr [g j 0])
def kX:Gl cx 164 t164:=λ_ _=>AU
def df(p q:Aa):IT:=
 .ca 76 [p,q] λa=>.fa a 0 λ_ b=>.fl b 1 λ_ c=>.ie [c,I 0] λd=>.AM d (.rr [.tuple []]) (.fa a 0 λ_ e=>.fl e 1 λ_ f=>.ca 76 [p,f] λh=>.fa h 0 λ_ j=>.fl j 2 λ_ k=>.ca 63 [k,q] λm=>.fa h 0 λ_ n=>.fl n 2 λ_ o=>.ia [m,I 1] λs=>.ca 187 [o,m,s] λu=>.fa h 0 λ_ w=>.op (.FB 2) [w] λy=>.store 1 y u (.fa a 0 λ_ z=>.op (.FB 1) [z] λa0=>.store 1 a0 i0 (.rr [.tuple []])))
def XO:Gl cx 166 df:=λ_ _=>AU
def wo(p q:Aa):IT:=
 .ln [p] λa=>.loop 2 [I 0,I 0] (λb=>.il [g b 1,a] λc=>.AM c (.ea 1 [p,g b 1] λd=>.ld d λe=>.se [q,e] λf=>.AM f (.rr [g b 1,g b 1]) (.ia [g b 1,I 1] λh=>.rn [g b 0,h])) (.rx 0 [g b 0,g b 1])) (lx 0 (λj=>.rr [I (-1)]) λj=>.rr [g j 0])
def kY:Gl cx 168 wo:=λ_ _=>AU
def wq(p q r:Aa):IT:=
 .ln [p] λa=>.mem (.aY 3) [p,q,r,a] λ_=>.ie [q,r] λb=>.AM b (.rr [p]) (.ln [p] λc=>.op (.Qo 3 false false true) [p,q] λd=>.op (.Qo 3 false true false) [p,r] λe=>.FC 3 48 d e λf=>.ln [f] λh=>.mem (.mD 3 true true) [f,h,c] λj=>.mem (.clear 3 [I 0,S [],.slnil]) [j] λ_=>.rr [f])
def kZ:QI cx 169 wq:=λ_ _ _=>AU
def wu(p q:Aa):IT:=
 .cells 4 p λa=>.ld q λb=>.ie [g a 0,b] λc=>.rr [c]
def lA:Gl cx 170 wu:=λ_ _=>AU
def dg(p q r:Aa):IT:=
 .cells 4 r λa=>.ca 84 [p,q] λb=>.il [b,I 1] λc=>.AM c (.HJ 0 p (.rr [ff])) (.CC p 0 λ_ _ d=>.ca 190 [d] λe=>.fa p 0 λ_ f=>.store 1 f e (.CC p 0 λ_ _ h=>.ea 4 [h,b] λj=>.store 4 j (a4 a) (.HJ 0 p (.rr [tt]))))
def XP:QI cx 171 dg:=λ_ _ _=>AU
def dh(p q r:Aa):IT:=
 .cells 3 r λa=>.ca 70 [p,q] λb=>.il [b,I 0] λc=>.AM c (.HJ 0 p (.rr [ff])) (.CC p 0 λ_ _ d=>.ca 85 [d] λe=>.fa p 0 λ_ f=>.store 1 f e (.CC p 0 λ_ h j=>.ca 115 [a3 a] λk=>.ld h λm=>.same j m (.ea 3 [j,b] λn=>.store 3 n k (.HJ 0 p (.rr [tt])))))
def XQ:QI cx 172 dh:=λ_ _ _=>AU
def wv(p q:Aa):IT:=
 .op (.Qo 4 false false true) [p,q] λa=>.op (.append 4 40) [.slnil,a] λb=>.ia [q,I 1] λc=>.op (.Qo 4 false true false) [p,c] λd=>.op (.append 4 40) [b,d] λe=>.rr [e]
def lB:Gl cx 173 wv:=λ_ _=>AU
def wz(p:Aa):IT:=
 .ES p λa=>.ln [a] λb=>.loop 3 [I 0] (λc=>.il [g c 0,b] λd=>.AM d (.ea 1 [a,g c 0] λe=>.ld e λf=>.op (.conv .i32) [f] λh=>.Cx 199 [h] λj=>.AM j (.ib [f,.int .u8 65] λk=>.ia [k,.int .u8 97] λm=>.ea 1 [a,g c 0] λn=>.store 1 n m (.ia [g c 0,I 1] λo=>.rn [o])) (.ia [g c 0,I 1] λs=>.rn [s])) (.rx 0 [g c 0])) (lx 0 (λu=>.SC a λw=>.op .UF [w] λy=>.rr [y]) λu=>.rr [S []])
def lC:IZ cx 181 wz:=λ_=>AU
def wF(p:Aa):IT:=
 .cells 1 p λa=>.ie [g a 0,I 4] λb=>.AM b (.rr [.func (.func 200) [] []]) (.ie [g a 0,I 5] λc=>.AM c (.rr [.func (.func 201) [] []]) (.rr [.func (.func 202) [] [.B3 [g a 0]]]))
def Sw:IZ cx 182 wF:=λ_=>AU
def w_(p q r:Aa):IT:=
 .cells 4 p λa=>.ld q λb=>.Es b [a4 a] λc=>.AM c (.rr [tt]) (.ld r λd=>.Es d [a4 a] λe=>.rr [e])
def lD:QI cx 183 w_:=λ_ _ _=>AU
def Ě(p:Aa):IT:=
 .loop 5 [I 0,I 1,.int .u8 0,I 0] (λa=>.lt [p] λb=>.il [g a 3,b] λc=>.AM c (.op .Yo [p,g a 3] λd=>.op (.int .or) [g a 2,d] λe=>.op (.SB 256 1) [.B3 I7,d] λf=>.ld f λh=>.op (.conv .i64) [h] λj=>.op (.un .xor) [j] λk=>.op (.int .and) [g a 1,k] λm=>.ia [g a 0,m] λn=>.ia [g a 3,I 1] λo=>.rn [n,j,e,o]) (.rx 0 [g a 0,g a 1,g a 2,g a 3])) (lx 0 (λs=>.ih [g s 2,.int .u8 128] λu=>.AM u (.ca 203 [p,.func (.func 204) [] []] λw=>.SC w λy=>.rr [y]) (.make 1 16 [S []] (g s 0) (g s 0) λz=>.loop 18 [I 0] (λa0=>.lt [p] λa1=>.il [g a0 0,a1] λa2=>.AM a2 (.op .Yo [p,g a0 0] λa5=>.op (.SB 256 1) [.B3 I7,a5] λa7=>.ld a7 λa8=>.iq [a8,.int .u8 0] λb0=>.AM b0 (.ia [g a0 0,I 1] λb1=>.rn [b1]) (.rx 2 [g a0 0])) (.rx 2 [g a0 0])) (lx 2 (λb2=>.loop 21 [I 0,g b2 0,g b2 0] (λb3=>.lt [p] λb4=>.il [g b3 2,b4] λb5=>.AM b5 (.op .Yo [p,g b3 2] λb6=>.op (.SB 256 1) [.B3 I7,b6] λb7=>.ld b7 λb8=>.ie [b8,.int .u8 0] λb9=>.AM b9 (.ia [g b3 2,I 1] λc1=>.rn [g b3 0,g b3 1,c1]) (.op (.Qo 0 true true true) [p,g b3 1,g b3 2] λc2=>.ea 1 [z,g b3 0] λc3=>.store 1 c3 c2 (.ia [g b3 0,I 1] λc4=>.ia [g b3 2,I 1] λc5=>.loop 27 [c5] (λc6=>.lt [p] λc7=>.il [g c6 0,c7] λc8=>.AM c8 (.op .Yo [p,g c6 0] λc9=>.op (.SB 256 1) [.B3 I7,c9] λd0=>.ld d0 λd1=>.iq [d1,.int .u8 0] λd2=>.AM d2 (.ia [g c6 0,I 1] λd3=>.rn [d3]) (.rx 6 [g c6 0])) (.rx 6 [g c6 0])) (λx d4=>match x with| .normal=>.fail| .exit i=>if i=6 then .rn [c4,g d4 0,g d4 0] else if i=5 then .rn [c4,g b3 1,g d4 0] else .ret (.exit i) [c4,g b3 1,g d4 0]| .ret=>.rr [c4,g b3 1,g d4 0])))) (.rx 4 [g b3 0,g b3 1,g b3 2])) (lx 4 (λd5=>.lt [p] λd6=>.il [g d5 1,d6] λd7=>.AM d7 (.op (.Qo 0 true true false) [p,g d5 1] λd8=>.ea 1 [z,g d5 0] λd9=>.store 1 d9 d8 (.SC z λe0=>.rr [e0])) (.SC z λe1=>.rr [e1])) λd5=>.SC .slnil λe2=>.rr [e2])) λb2=>.SC .slnil λe3=>.rr [e3]))) λs=>.SC .slnil λe4=>.rr [e4])
def di:IZ cx 184 Ě:=λ_=>AU
def xa(p q:Aa):IT:=
 .cells 3 q λa=>.ln [p] λb=>.loop 2 [I 0,I 0] (λc=>.il [g c 1,b] λd=>.AM d (.ea 3 [p,g c 1] λe=>.load (some 3) e λf=>.op (.geq false [.i,.s,.s]) [a3 a,f] λh=>.AM h (.rr [g c 1,g c 1]) (.ia [g c 1,I 1] λj=>.rn [g c 0,j])) (.rx 0 [g c 0,g c 1])) (lx 0 (λk=>.rr [I (-1)]) λk=>.rr [g k 0])
def lE:Gl cx 185 xa:=λ_ _=>AU
def xb(p q r:Aa):IT:=
 .ln [p] λa=>.mem (.aY 1) [p,q,r,a] λ_=>.ie [q,r] λb=>.AM b (.rr [p]) (.ln [p] λc=>.op (.Qo 1 false false true) [p,q] λd=>.op (.Qo 1 false true false) [p,r] λe=>.FC 1 8 d e λf=>.ln [f] λh=>.mem (.mD 1 true true) [f,h,c] λj=>.mem (.clear 1 [I 0]) [j] λ_=>.rr [f])
def lF:QI cx 187 xb:=λ_ _ _=>AU
def xc(p:Aa):IT:=
 .op (.Gb false .sl) [p,.slnil] λa=>.AM a (.rr [.slnil]) (.op (.Cb 4) [] λb=>.IV 4 40 b p λc=>.rr [c])
def lG:IZ cx 190 xc:=λ_=>AU
def xd(p:Aa):IT:=
 .ca 211 [.int .i32 65,.int .i32 90] λa=>.Es a [p] λb=>.rr [b]
def lH:IZ cx 199 xd:=λ_=>AU
def xe(p:Aa):IT:=
 .cells 4 p λa=>.op (.Cb 1) [S aLN,S aLK,S aLI] λb=>.ca 100 [a4 a,b] λc=>.rr [c]
def lI:IZ cx 200 xe:=λ_=>AU
def xf(p:Aa):IT:=
 .cells 4 p λa=>.op (.Cb 1) [S aLP,S aLZ] λb=>.ca 100 [a4 a,b] λc=>.nt [c] λd=>.rr [d]
def lJ:IZ cx 201 xf:=λ_=>AU
def xg(p q:Aa):IT:=
 .cells 4 p λa=>.ie [g a 1,I 3] λb=>.AM b (.Cx 88 [g a 1,g a 2] λc=>.rr [c]) (.ie [g a 1,I 2] λd=>.AM d (.Cx 88 [g a 1,g a 2] λe=>.rr [e]) (.op (.Cb 1) [S aMd,S aLM,S aLN,S aMa,S aMg,S aLK,S [116,100],S aLI,S [116,104]] λf=>.ca 100 [a4 a,f] λh=>.AM h (.rr [tt]) (.ld q λj=>.ie [j,I 2] λk=>.AM k (.op (.Cb 1) [S [111,108],S [117,108]] λm=>.ca 100 [a4 a,m] λn=>.AM n (.rr [tt]) (.ld q λo=>.ie [o,I 3] λs=>.AM s (.op (.Cb 1) [S aLO] λu=>.ca 100 [a4 a,u] λw=>.rr [w]) (.rr [ff]))) (.ld q λy=>.ie [y,I 3] λz=>.AM z (.op (.Cb 1) [S aLO] λa0=>.ca 100 [a4 a,a0] λa1=>.rr [a1]) (.rr [ff])))))
def lK:Gl cx 202 xg:=λ_ _=>AU
def ě(p q:Aa):IT:=
 .make 2 16 [I 0,I 0] i0 (I 32) λ_=>.fail
def dj:Gl cx 203 ě:=λ_ _=>AU
def xh(p q:Aa):IT:=
 .cells 1 p λa=>.cells 1 q λb=>.rr [.func (.func 221) [] [.B3 [g a 0],.B3 [g b 0]]]
def lL:Gl cx 211 xh:=λ_ _=>AU
def xi(p q r:Aa):IT:=
 .ld q λa=>.ik [a,p] λb=>.AM b (.ld r λc=>.ik [p,c] λd=>.rr [d]) (.rr [ff])
def lM:QI cx 221 xi:=λ_ _ _=>AU
def Sx(p:Aa):IT:=
 .op (.Gb false .sl) [p,.slnil] λa=>.AM a (.rr [.slnil]) (.op (.Cb 3) [] λb=>.IV 3 40 b p λc=>.rr [c])
def O0:IZ cx 100047 Sx:=λ_=>AU
end Go.Am
