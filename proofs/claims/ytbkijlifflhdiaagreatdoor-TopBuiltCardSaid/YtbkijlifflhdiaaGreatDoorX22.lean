/- Lemmas -/
import Derived.Test.YtbkijlifflhdiaaGreatDoorX9
import Derived.Test.YtbkijlifflhdiaaGreatDoorX17
set_option linter.all false
namespace Go.Am
open Go
def cq(p q r u w:Aa):IT:=
 .ca 140 [p,q] λa=>.iq [a,I 0] λb=>.AX b (.rr [.tuple [I 0,a]]) (.ca 172 [w] λc=>.op (.ext 0) [c] λd=>.op (.ext 1) [c] λe=>.nt [e] λf=>.AX f (.rr [.tuple [I 0,I 2]]) (.op (.Cf 1) [r] λh=>.ca 178 [h] λj=>.nt [j] λk=>.AX k (.rr [.tuple [I 0,I 2]]) (.op (.B4 [I 0,I 0,.slnil,I 0,I 0,S [],.slnil,S [],S [],S [],ff,I 0,I 0] [(0,1),(3,1),(4,1),(5,1),(6,1)]) [I 4,q,r,u,d] λm=>.ca 90 [p,m] λn=>.ca 55 [p,n] λo=>.ca 179 [o] λs=>.AX s (.ca 180 [p,q] λy=>.op (.B4 [I 0,I 0,.slnil,I 0,I 0,S [],.slnil,S [],S [],S [],ff,I 0,I 0] [(0,1),(12,1),(3,1)]) [I 2,n,y] λz=>.ca 90 [p,z] λa0=>.ca 55 [p,n] λa1=>.fa a1 0 λ_ a2=>.op (.FV 11) [a2] λa5=>.store 1 a5 a0 (.rr [.tuple [n,I 0]])) (.rr [.tuple [n,I 0]]))))
def Yf:Tq5 cx 130 cq:=λ_ _ _ _ _=>A0
def cr(p q:Aa):IT:=
 .ca 48 [p,q] λa=>.cells 13 a λb=>.iq [g b 11,I 0] λc=>.AX c (.ca 48 [p,g b 11] λd=>.cells 13 d λe=>.iq [g e 3,I 0] λf=>.AX f (.rr [g e 3]) (.Dm p 1 λ_ _ h=>.rr [h])) (.iq [g b 3,I 0] λj=>.AX j (.rr [g b 3]) (.Dm p 1 λ_ _ k=>.rr [k]))
def Yg:GG cx 131 cr:=λ_ _=>A0
def cw(p q:Aa):IT:=
 .ca 55 [p,q] λa=>.fa a 0 λ_ b=>.fl b 1 λ_ c=>.ie [c,I 0] λd=>.AX d (.rr [.tuple []]) (.fa a 0 λ_ e=>.fl e 1 λ_ f=>.ca 55 [p,f] λh=>.fa h 0 λ_ j=>.fl j 2 λ_ k=>.ca 49 [k,q] λm=>.fa h 0 λ_ n=>.fl n 2 λ_ o=>.ia [m,I 1] λs=>.ca 181 [o,m,s] λu=>.fa h 0 λ_ w=>.op (.FV 2) [w] λy=>.store 1 y u (.fa a 0 λ_ z=>.op (.FV 1) [z] λa0=>.store 1 a0 i0 (.rr [.tuple []])))
def Yh:GG cx 132 cw:=λ_ _=>A0
def vw(p q r:Aa):IT:=
 .cells 4 q λa=>.op (.PI 4 false false true) [p,r] λb=>.op (.append 4 40) [.slnil,b] λc=>.op (.Cf 4) [a4 a] λd=>.op (.append 4 40) [c,d] λe=>.op (.PI 4 false true false) [p,r] λf=>.op (.append 4 40) [e,f] λh=>.rr [h]
def kI:Q0 cx 134 vw:=λ_ _ _=>A0
def vM(p q:Aa):IT:=
 .ln [p] λa=>.loop 2 [I 0,I 0] (λb=>.il [g b 1,a] λc=>.AX c (.ea 3 [p,g b 1] λd=>.load (some 3) d λe=>.FH q [e] λf=>.AX f (.rr [g b 1,g b 1]) (.ia [g b 1,I 1] λh=>.rn [g b 0,h])) (.rx 0 [g b 0,g b 1])) (lx 0 (λj=>.rr [I (-1)]) λj=>.rr [g j 0])
def S7:GG cx 135 vM:=λ_ _=>A0
def vy(p:Aa):IT:=
 .cells 3 p λa=>.ie [g a 0,I 0] λb=>.AX b (.se [g a 1,S aLJ] λc=>.rr [c]) (.rr [ff])
def kJ:JG cx 136 vy:=λ_=>A0
def vz(p q:Aa):IT:=
 .Co 182 [p] λa=>.Co 182 [q] λb=>.se [a,b] λc=>.rr [c]
def kK:GG cx 137 vz:=λ_ _=>A0
def v_(p q:Aa):IT:=
 .ca 183 [p,q] λa=>.ih [a,I 0] λb=>.rr [b]
def kL:GG cx 138 v_:=λ_ _=>A0
def cy(p q:Aa):IT:=
 .ca 56 [p,q] λa=>.nt [a] λb=>.AX b (.rr [I 0]) (.ca 55 [p,q] λc=>.fa c 0 λ_ d=>.fl d 1 λ_ e=>.rr [e])
def Yi:GG cx 139 cy:=λ_ _=>A0
def wb(p q:Aa):IT:=
 .op (.Cf 1) [q] λa=>.ca 54 [p,a] λb=>.iq [b,I 0] λc=>.AX c (.rr [b]) (.ca 55 [p,q] λd=>.fa d 0 λ_ e=>.fl e 0 λ_ f=>.iq [f,I 1] λh=>.AX h (.rr [I 9]) (.rr [I 0]))
def kM:GG cx 140 wb:=λ_ _=>A0
def wc(p q:Aa):IT:=
 .ln [p] λa=>.loop 2 [I 0,I 0] (λb=>.il [g b 1,a] λc=>.AX c (.ea 1 [p,g b 1] λd=>.ld d λe=>.FH q [e] λf=>.AX f (.rr [g b 1,g b 1]) (.ia [g b 1,I 1] λh=>.rn [g b 0,h])) (.rx 0 [g b 0,g b 1])) (lx 0 (λj=>.rr [I (-1)]) λj=>.rr [g j 0])
def kN:GG cx 141 wc:=λ_ _=>A0
def ğ(p q:Aa):IT:=
 .cells 3 p λa=>.cells 3 q λb=>.se [g a 1,g b 1] λc=>.AX c (.ln [g a 2] λd=>.ln [g b 2] λe=>.ie [d,e] λf=>.AX f (.FH (.func (.func 195) [] []) [g a 2,g b 2] λh=>.AX h (.FH (.func (.func 195) [] []) [g b 2,g a 2] λj=>.rr [j]) (.rr [ff])) (.rr [ff])) (.rr [ff])
def cz:GG cx 151 ğ:=λ_ _=>A0
def Ġ(p q:Aa):IT:=
 .op (.PI 3 false false true) [p,q] λa=>.op (.append 3 48) [.slnil,a] λb=>.ia [q,I 1] λc=>.op (.PI 3 false true false) [p,c] λd=>.op (.append 3 48) [b,d] λe=>.rr [e]
def c_:GG cx 152 Ġ:=λ_ _=>A0
def ġ(p:Aa):IT:=
 .cells 3 p λa=>.ca 27 [g a 2] λb=>.cells 1 b λc=>.cells 3 (.agg [g a 0,g a 1,g c 0]) λd=>.rr [a3 d]
def da:JG cx 153 ġ:=λ_=>A0
def Ģ(p q r:Aa):IT:=
 .cells 1 r λa=>.ca 198 [q] λb=>.cells 1 b λc=>.ca 158 [p,.func (.func 199) [] [.Cz [g a 0],.Cz [g c 0]]] λd=>.ih [d,I 0] λe=>.AX e (.ld (.Cz [g a 0]) λf=>.Dm p 0 λ_ _ h=>.ea 4 [h,d] λj=>.load (some 4) j λk=>.FH f [k] λm=>.rr [m]) (.rr [ff])
def db:Q0 cx 154 Ģ:=λ_ _ _=>A0
def ģ(p q:Aa):IT:=
 .cells 4 p λa=>.ld q λb=>.ca 127 [a4 a,b] λc=>.rr [c]
def de:GG cx 155 ģ:=λ_ _=>A0
def Ĥ(p q:Aa):IT:=
 .cells 4 p λa=>.iq [g a 1,I 1] λb=>.AX b (.rr [tt]) (.Co 157 [g a 2] λc=>.nt [c] λd=>.AX d (.rr [tt]) (.ld q λe=>.se [g a 2,e] λf=>.rr [f]))
def dg:GG cx 156 Ĥ:=λ_ _=>A0
def ĥ(p:Aa):IT:=
 .se [p,S [100,100]] λa=>.AX a (.rr [tt]) (.se [p,S [100,116]] λb=>.AX b (.rr [tt]) (.se [p,S [108,105]] λc=>.AX c (.rr [tt]) (.se [p,S aLg] λd=>.AX d (.rr [tt]) (.se [p,S aLq] λe=>.AX e (.rr [tt]) (.se [p,S [112]] λf=>.AX f (.rr [tt]) (.se [p,S [114,98]] λh=>.AX h (.rr [tt]) (.se [p,S [114,112]] λj=>.AX j (.rr [tt]) (.se [p,S [114,116]] λk=>.AX k (.rr [tt]) (.se [p,S [114,116,99]] λm=>.AX m (.rr [tt]) (.rr [ff]))))))))))
def dh:JG cx 157 ĥ:=λ_=>A0
def we(p q:Aa):IT:=
 .ca 82 [p] λa=>.ib [a,I 1] λb=>.loop 2 [I 0,b] (λc=>.ih [g c 1,I 0] λd=>.AX d (.Dm p 0 λ_ _ e=>.ea 4 [e,g c 1] λf=>.load (some 4) f λh=>.FH q [h] λj=>.AX j (.rr [g c 1,g c 1]) (.ib [g c 1,I 1] λk=>.rn [g c 0,k])) (.rx 0 [g c 0,g c 1])) (lx 0 (λm=>.rr [I (-1)]) λm=>.rr [g m 0])
def kO:GG cx 158 we:=λ_ _=>A0
def Ħ(p q:Aa):IT:=
 .cells 4 p λa=>.ld q λb=>.ie [g a 0,b] λc=>.rr [c]
def di:GG cx 159 Ħ:=λ_ _=>A0
def ħ(p q:Aa):IT:=
 .cells 4 p λa=>.ld q λb=>.ie [g a 0,b] λc=>.rr [c]
def dj:GG cx 160 ħ:=λ_ _=>A0
def wg(p q:Aa):IT:=
 .ie [p,I 3] λa=>.AX a (.se [q,S [109,105]] λb=>.AX b (.rr [tt]) (.se [q,S [109,110]] λc=>.AX c (.rr [tt]) (.se [q,S [109,111]] λd=>.AX d (.rr [tt]) (.se [q,S [109,115]] λe=>.AX e (.rr [tt]) (.se [q,S [109,116,101,120,116]] λf=>.rr [f]))))) (.rr [ff])
def kP:GG cx 161 wg:=λ_ _=>A0
def Ĩ(p q:Aa):IT:=
 .op (.Te false) [p,.ptr none] λa=>.AX a (.rr [I (-1)]) (.Dm p 0 λ_ _ b=>.ln [b] λc=>.ib [c,I 1] λd=>.loop 4 [I 0,d] (λe=>.ih [g e 1,I 0] λf=>.AX f (.Dm p 0 λ_ _ h=>.ea 3 [h,g e 1] λj=>.fl j 0 λ_ k=>.iq [k,I 0] λm=>.AX m (.Dm p 0 λ_ _ n=>.ea 3 [n,g e 1] λo=>.fl o 1 λ_ s=>.se [s,q] λu=>.AX u (.rr [g e 1,g e 1]) (.ib [g e 1,I 1] λw=>.rn [g e 0,w])) (.rx 0 [g e 0,g e 1])) (.rx 0 [g e 0,g e 1])) (lx 0 (λy=>.rr [I (-1)]) λy=>.rr [g y 0]))
def dk:GG cx 162 Ĩ:=λ_ _=>A0
def ĩ(p q r:Aa):IT:=
 .fa q 3 λ_ a=>.fl a 0 λ_ b=>.ca 110 [b] λc=>.ia [r,I 1] λd=>.ca 200 [c,r,d] λe=>.fa q 3 λ_ f=>.op (.FV 0) [f] λh=>.store 1 h e (.Dm p 3 λ_ _ j=>.il [r,j] λk=>.AX k (.Dm p 3 λ_ _ m=>.ib [m,I 1] λn=>.fa p 3 λ_ o=>.store 1 o n (.Dm p 4 λ_ _ s=>.il [r,s] λu=>.AX u (.Dm p 4 λ_ _ w=>.ib [w,I 1] λy=>.fa p 4 λ_ z=>.store 1 z y (.HX 3 q (.rr [.tuple []]))) (.HX 3 q (.rr [.tuple []])))) (.Dm p 4 λ_ _ a0=>.il [r,a0] λa1=>.AX a1 (.Dm p 4 λ_ _ a2=>.ib [a2,I 1] λa5=>.fa p 4 λ_ a7=>.store 1 a7 a5 (.HX 3 q (.rr [.tuple []]))) (.HX 3 q (.rr [.tuple []]))))
def dm:Q0 cx 163 ĩ:=λ_ _ _=>A0
def t164(p q r:Aa):IT:=
 .cells 1 r λa=>.ca 154 [p,q,.func (.func 201) [] [.Cz [g a 0]]] λb=>.rr [b]
def dr:Q0 cx 164 t164:=λ_ _ _=>A0
def Ī(p q:Aa):IT:=
 .ca 109 [p,q] λa=>.ia [a,I 1] λb=>.loop 3 [I 0,b] (λc=>.ih [a,I 0] λd=>.AX d (.ca 82 [p] λe=>.il [g c 1,e] λf=>.AX f (.Dm p 0 λ_ _ h=>.ea 4 [h,g c 1] λj=>.fl j 1 λ_ k=>.Dm p 0 λ_ _ m=>.ea 4 [m,g c 1] λn=>.fl n 2 λ_ o=>.Co 113 [k,o] λs=>.AX s (.rr [g c 1,g c 1]) (.ia [g c 1,I 1] λu=>.rn [g c 0,u])) (.rx 0 [g c 0,g c 1])) (.rx 0 [g c 0,g c 1])) (lx 0 (λw=>.rr [I (-1)]) λw=>.rr [g w 0])
def du:GG cx 165 Ī:=λ_ _=>A0
def ī(p q r u:Aa):IT:=
 .ib [u,I 1] λa=>.loop 2 [I 0,a] (λb=>.ig [g b 1,r] λc=>.AX c (.fa p 2 λ_ d=>.ca 81 [d,g b 1] λe=>.cells 4 e λf=>.ia [g b 0,I 1] λh=>.fa p 3 λ_ j=>.ca 114 [j,g f 0] λk=>.Fj 200007 (.ig [h,I 3] λm=>.AX m (.ih [k,I 0] λn=>.rn [n]) (.rn [ff])) (λx o=>match x with| .normal=>.Fj 100039 (.AX (g o 0) (.ca 163 [q,p,k] λ_=>.fa p 3 λ_ s=>.ca 114 [s,g f 0] λw=>.rn [w]) (.rn [k])) (λx y=>match x with| .normal=>.il [g y 0,I 0] λz=>.AX z (.fa p 2 λ_ a0=>.ca 168 [a0,g f 0] λ_=>.ib [g b 1,I 1] λa1=>.rn [h,a1]) (.fa p 3 λ_ a2=>.fl a2 0 λ_ a5=>.ea 3 [a5,g y 0] λa7=>.load (some 3) a7 λa8=>.cells 3 a8 λb0=>.fa q 5 λ_ b1=>.fl b1 0 λb2 b3=>.ca 111 [a3 b0] λb4=>.ld b2 λb5=>.same b3 b5 (.ca 76 [p,b4,I 1,b3] λb6=>.cells 4 b6 λb7=>.fa p 2 λ_ b8=>.ca 202 [b8,g f 0,a4 b7] λ_=>.fa p 3 λ_ b9=>.op (.B4 [I 0,S [],.slnil] [(0,1),(1,1),(2,1)]) [g b7 0,g b0 1,g b0 2] λc0=>.ca 203 [b9,g f 0,c0] λ_=>.Dm q 13 λ_ _ c2=>.fa q 9 λ_ c3=>.fl c3 0 λ_ c4=>.ie [c2,c4] λc5=>.Fj 100104 (.AX c5 (.ia [g y 0,I 1] λc7=>.fa q 4 λ_ c8=>.store 1 c8 c7 (.rn [])) (.rn [])) (λx _=>match x with| .normal=>.Dm q 13 λ_ _ c9=>.ca 53 [p,c9,g b7 0,I 0] λ_=>.fa q 13 λ_ d0=>.store 1 d0 (g b7 0) (.ib [g b 1,I 1] λd1=>.rn [h,d1])| .exit i=>if i=1 then .ib [g b 1,I 1] λd2=>.rn [h,d2] else .ret (.exit i) [h,g b 1]| .ret=>.rr [h,g b 1])))| .exit i=>if i=1 then .ib [g b 1,I 1] λd3=>.rn [h,d3] else .ret (.exit i) [h,g b 1]| .ret=>.rr [h,g b 1])| .exit i=>if i=1 then .ib [g b 1,I 1] λd4=>.rn [h,d4] else .ret (.exit i) [h,g b 1]| .ret=>.rr [h,g b 1])) (.rx 0 [g b 0,g b 1])) (lx 0 (λd5=>.rr [.tuple []]) λd5=>.rr [.tuple []])
def dv:ô cx 166 ī:=λ_ _ _ _=>A0
def Ĭ(p q r:Aa):IT:=
 .cells 3 q λa=>.op (.Te true) [p,.ptr none] λb=>.AX b (.Dm p 0 λ_ c d=>.op (.J5 true) [r,I 0] λe=>.Dm p 0 λ_ f h=>.ln [h] λj=>.op (.J5 false) [e,j] λk=>.ca 153 [a3 a] λm=>.ld f λn=>.same h n (.ld c λo=>.same d o (.ca 122 [d,m,k] λs=>.fa p 0 λ_ u=>.store 1 u s (.rr [.tuple []])))) (.rr [.tuple []])
def dw:Q0 cx 167 Ĭ:=λ_ _ _=>A0
def wh(p q:Aa):IT:=
 .ca 109 [p,q] λa=>.il [a,I 1] λb=>.AX b (.rr [ff]) (.Dm p 0 λ_ _ c=>.ca 204 [c,a] λd=>.fa p 0 λ_ e=>.store 1 e d (.rr [tt]))
def kQ:GG cx 168 wh:=λ_ _=>A0
def ĭ(p q r:Aa):IT:=
 .cells 4 q λa=>.op (.Te true) [p,.ptr none] λb=>.AX b (.Dm p 0 λ_ _ c=>.op (.J5 true) [r,I 1] λd=>.Dm p 0 λ_ _ e=>.ln [e] λf=>.op (.J5 false) [d,f] λh=>.ca 134 [c,a4 a,h] λj=>.fa p 0 λ_ k=>.store 1 k j (.rr [.tuple []])) (.rr [.tuple []])
def dx:Q0 cx 169 ĭ:=λ_ _ _=>A0
def wj:IT:=
 .op (.B4 [S [],I 0] [(0,1),(1,1)]) [S [116,114],I 14] λa=>.op (.B4 [S [],I 0] [(0,1),(1,1)]) [S aLr,I 13] λb=>.op (.B4 [S [],I 0] [(0,1),(1,1)]) [S aLs,I 13] λc=>.op (.B4 [S [],I 0] [(0,1),(1,1)]) [S aLn,I 13] λd=>.op (.B4 [S [],I 0] [(0,1),(1,1)]) [S aLd,I 11] λe=>.op (.B4 [S [],I 0] [(0,1),(1,1)]) [S aLm,I 12] λf=>.op (.B4 [S [],I 0] [(0,1),(1,1)]) [S aLb,I 9] λh=>.op (.B4 [S [],I 0] [(0,1),(1,1)]) [S [98,111,100,121],I 7] λj=>.op (.B4 [S [],I 0] [(0,1),(1,1)]) [S aLK,I 20] λk=>.op (.Cf 2) [a,b,c,d,e,f,h,j,k] λm=>.rr [m]
def kR:B2 cx 170 []=wj:=A0
def wk(p q:Aa):IT:=
 .ib [q,I 1] λa=>.loop 2 [I 0,a] (λb=>.ih [g b 1,I 0] λc=>.AX c (.fa p 2 λ_ d=>.ca 81 [d,g b 1] λe=>.op (.Cf 1) [S aK9] λf=>.ca 93 [e,f] λh=>.AX h (.rx 0 [g b 0,g b 1]) (.fa p 2 λ_ j=>.ca 81 [j,g b 1] λk=>.op (.Cf 1) [S aLb] λm=>.ca 93 [k,m] λn=>.AX n (.rr [I 17,g b 1]) (.ib [g b 1,I 1] λo=>.rn [g b 0,o]))) (.rx 0 [g b 0,g b 1])) (lx 0 (λs=>.rr [I 16]) λs=>.rr [g s 0])
def kS:GG cx 171 wk:=λ_ _=>A0
def wm(p:Aa):IT:=
 .ln [p] λa=>.loop 3 [.slnil,ff,.slnil,I 0] (λb=>.il [g b 3,a] λc=>.AX c (.ea 3 [p,g b 3] λd=>.load (some 3) d λe=>.cells 3 e λf=>.op (.Cf 1) [g f 0] λh=>.ca 178 [h] λj=>.nt [j] λk=>.AX k (.rr [.slnil,ff,g b 2,g b 3]) (.ca 117 [g b 2,.func (.func 205) [] [.Cz [g f 0,g f 1,g f 2]]] λm=>.nt [m] λn=>.AX n (.load (some 3) (.Cz [g f 0,g f 1,g f 2]) λo=>.op (.Cf 3) [o] λs=>.op (.append 3 40) [g b 2,s] λu=>.ia [g b 3,I 1] λw=>.rn [g b 0,g b 1,u,w]) (.ia [g b 3,I 1] λy=>.rn [g b 0,g b 1,g b 2,y]))) (.rx 0 [g b 0,g b 1,g b 2,g b 3])) (lx 0 (λz=>.rr [.tuple [g z 2,tt]]) λz=>.rr [.tuple [g z 0,g z 1]])
def kT:JG cx 172 wm:=λ_=>A0
def wo(p q:Aa):IT:=
 .cells 4 p λa=>.ld q λb=>.op (.Cf 1) [b] λc=>.ca 127 [a4 a,c] λd=>.rr [d]
def kU:GG cx 173 wo:=λ_ _=>A0
def Į(p:Aa):IT:=
 .cells 4 p λa=>.iq [g a 1,I 1] λb=>.AX b (.rr [tt]) (.Co 175 [g a 2] λc=>.nt [c] λd=>.rr [d])
def dy:JG cx 174 Į:=λ_=>A0
def į(p:Aa):IT:=
 .se [p,S aLd] λa=>.AX a (.rr [tt]) (.se [p,S aLm] λb=>.AX b (.rr [tt]) (.se [p,S aLr] λc=>.AX c (.rr [tt]) (.se [p,S [116,100]] λd=>.AX d (.rr [tt]) (.se [p,S aLn] λe=>.AX e (.rr [tt]) (.se [p,S [116,104]] λf=>.AX f (.rr [tt]) (.se [p,S aLs] λh=>.AX h (.rr [tt]) (.se [p,S [116,114]] λj=>.AX j (.rr [tt]) (.Co 157 [p] λk=>.rr [k]))))))))
def dz:JG cx 175 į:=λ_=>A0
def wq(p:Aa):IT:=
 .Co 177 [p,S aK7] λa=>.rr [a]
def kW:JG cx 176 wq:=λ_=>A0
def wu(p q:Aa):IT:=
 .ca 206 [q] λa=>.ln [a] λb=>.loop 2 [S [],I 0] (λc=>.il [g c 1,b] λd=>.AX d (.ea 1 [a,g c 1] λe=>.ld e λf=>.Co 182 [f] λh=>.se [h,p] λj=>.AX j (.rr [f,g c 1]) (.ia [g c 1,I 1] λk=>.rn [g c 0,k])) (.rx 0 [g c 0,g c 1])) (lx 0 (λm=>.rr [p]) λm=>.rr [g m 0])
def kX:GG cx 177 wu:=λ_ _=>A0
def wv(p:Aa):IT:=
 .ln [p] λa=>.loop 2 [ff,I 0] (λb=>.il [g b 1,a] λc=>.AX c (.ea 1 [p,g b 1] λd=>.ld d λe=>.il [e,I 0] λf=>.AX f (.rr [ff,g b 1]) (.ig [e,I 7] λh=>.AX h (.rr [ff,g b 1]) (.ia [g b 1,I 1] λj=>.rn [g b 0,j]))) (.rx 0 [g b 0,g b 1])) (lx 0 (λk=>.rr [tt]) λk=>.rr [g k 0])
def kY:JG cx 178 wv:=λ_=>A0
def wz(p:Aa):IT:=
 .fa p 0 λ_ a=>.fl a 0 λ_ b=>.ie [b,I 4] λc=>.AX c (.fa p 0 λ_ d=>.fl d 4 λ_ e=>.ie [e,I 1] λf=>.AX f (.fa p 0 λ_ h=>.fl h 5 λ_ j=>.se [j,S aK9] λk=>.rr [k]) (.rr [ff])) (.rr [ff])
def kZ:JG cx 179 wz:=λ_=>A0
def vN(p q:Aa):IT:=
 .Dm p 1 λ_ _ a=>.mem (.yG i0 true) [a,q] λb=>.op (.ext 0) [b] λc=>.op (.ext 1) [b] λd=>.AX d (.rr [c]) (.ca 43 [p,ff] λe=>.Dm p 1 λ_ _ f=>.op (.Gu false .mp) [f,.map none] λh=>.AX h (.OC λj=>.fa p 1 λ_ k=>.store 1 k j (.Dm p 1 λ_ _ m=>.Dm p 1 λ_ _ n=>.mem (.MB i0) [m,q] λo=>.op (.ext 1) [o] λs=>.mem .Lw [m,s,e] λ_=>.mem (.MB i0) [n,e] λu=>.op (.ext 1) [u] λw=>.mem .Lw [n,w,e] λ_=>.rr [e])) (.Dm p 1 λ_ _ y=>.Dm p 1 λ_ _ z=>.mem (.MB i0) [y,q] λa0=>.op (.ext 1) [a0] λa1=>.mem .Lw [y,a1,e] λ_=>.mem (.MB i0) [z,e] λa2=>.op (.ext 1) [a2] λa5=>.mem .Lw [z,a5,e] λ_=>.rr [e]))
def S8:GG cx 180 vN:=λ_ _=>A0
def w_(p q r:Aa):IT:=
 .ln [p] λa=>.mem (.bZ 1) [p,q,r,a] λ_=>.ie [q,r] λb=>.AX b (.rr [p]) (.ln [p] λc=>.op (.PI 1 false false true) [p,q] λd=>.op (.PI 1 false true false) [p,r] λe=>.FJ 1 8 d e λf=>.ln [f] λh=>.mem (.mF 1 true true) [f,h,c] λj=>.mem (.clear 1 [I 0]) [j] λ_=>.rr [f])
def lA:Q0 cx 181 w_:=λ_ _ _=>A0
def xa(p:Aa):IT:=
 .E4 p λa=>.ln [a] λb=>.loop 3 [I 0] (λc=>.il [g c 0,b] λd=>.AX d (.ea 1 [a,g c 0] λe=>.ld e λf=>.op (.conv .i32) [f] λh=>.Co 207 [h] λj=>.AX j (.ib [f,.int .u8 65] λk=>.ia [k,.int .u8 97] λm=>.ea 1 [a,g c 0] λn=>.store 1 n m (.ia [g c 0,I 1] λo=>.rn [o])) (.ia [g c 0,I 1] λs=>.rn [s])) (.rx 0 [g c 0])) (lx 0 (λu=>.Th a λw=>.op .Vk [w] λy=>.rr [y]) λu=>.rr [S []])
def lB:JG cx 182 xa:=λ_=>A0
def xb(p q:Aa):IT:=
 .ln [p] λa=>.loop 2 [I 0,I 0] (λb=>.il [g b 1,a] λc=>.AX c (.ea 1 [p,g b 1] λd=>.ld d λe=>.se [q,e] λf=>.AX f (.rr [g b 1,g b 1]) (.ia [g b 1,I 1] λh=>.rn [g b 0,h])) (.rx 0 [g b 0,g b 1])) (lx 0 (λj=>.rr [I (-1)]) λj=>.rr [g j 0])
def lC:GG cx 183 xb:=λ_ _=>A0
def İ(p q:Aa):IT:=
 .cells 1 q λa=>.ca 117 [p,.func (.func 196) [] [.Cz [g a 0]]] λb=>.nt [b] λc=>.rr [c]
def d_:GG cx 195 İ:=λ_ _=>A0
def ı(p q:Aa):IT:=
 .cells 3 p λa=>.ld q λb=>.ca 197 [b,a3 a] λc=>.nt [c] λd=>.rr [d]
def ee:GG cx 196 ı:=λ_ _=>A0
def Ĳ(p q:Aa):IT:=
 .cells 3 q λa=>.ca 214 [p,a3 a] λb=>.ih [b,I 0] λc=>.rr [c]
def ew:GG cx 197 Ĳ:=λ_ _=>A0
def e_(p:Aa):IT:=
 .cells 1 p λa=>.ie [g a 0,I 4] λb=>.AX b (.rr [.func (.func 215) [] []]) (.ie [g a 0,I 5] λc=>.AX c (.rr [.func (.func 216) [] []]) (.rr [.func (.func 217) [] [.Cz [g a 0]]]))
def Yj:JG cx 198 e_:=λ_=>A0
def ĳ(p q r:Aa):IT:=
 .cells 4 p λa=>.ld q λb=>.FH b [a4 a] λc=>.AX c (.rr [tt]) (.ld r λd=>.FH d [a4 a] λe=>.rr [e])
def fc:Q0 cx 199 ĳ:=λ_ _ _=>A0
def Ĵ(p q r:Aa):IT:=
 .ln [p] λa=>.mem (.bZ 3) [p,q,r,a] λ_=>.ie [q,r] λb=>.AX b (.rr [p]) (.ln [p] λc=>.op (.PI 3 false false true) [p,q] λd=>.op (.PI 3 false true false) [p,r] λe=>.FJ 3 48 d e λf=>.ln [f] λh=>.mem (.mF 3 true true) [f,h,c] λj=>.mem (.clear 3 [I 0,S [],.slnil]) [j] λ_=>.rr [f])
def fg:Q0 cx 200 Ĵ:=λ_ _ _=>A0
def ĵ(p q:Aa):IT:=
 .cells 4 p λa=>.ld q λb=>.ie [g a 0,b] λc=>.rr [c]
def fj:GG cx 201 ĵ:=λ_ _=>A0
def xc(p q r:Aa):IT:=
 .cells 4 r λa=>.ca 109 [p,q] λb=>.il [b,I 1] λc=>.AX c (.HX 0 p (.rr [ff])) (.Dm p 0 λ_ _ d=>.ca 218 [d] λe=>.fa p 0 λ_ f=>.store 1 f e (.Dm p 0 λ_ _ h=>.ea 4 [h,b] λj=>.store 4 j (a4 a) (.HX 0 p (.rr [tt]))))
def lD:Q0 cx 202 xc:=λ_ _ _=>A0
def xe(p q r:Aa):IT:=
 .cells 3 r λa=>.ca 114 [p,q] λb=>.il [b,I 0] λc=>.AX c (.HX 0 p (.rr [ff])) (.Dm p 0 λ_ _ d=>.ca 110 [d] λe=>.fa p 0 λ_ f=>.store 1 f e (.Dm p 0 λ_ h j=>.ca 153 [a3 a] λk=>.ld h λm=>.same j m (.ea 3 [j,b] λn=>.store 3 n k (.HX 0 p (.rr [tt])))))
def lE:Q0 cx 203 xe:=λ_ _ _=>A0
def Ķ(p q:Aa):IT:=
 .op (.PI 4 false false true) [p,q] λa=>.op (.append 4 40) [.slnil,a] λb=>.ia [q,I 1] λc=>.op (.PI 4 false true false) [p,c] λd=>.op (.append 4 40) [b,d] λe=>.rr [e]
def fk:GG cx 204 Ķ:=λ_ _=>A0
def xf(p q:Aa):IT:=
 .cells 3 p λa=>.fl q 0 λ_ b=>.ie [b,g a 0] λc=>.AX c (.fl q 1 λ_ d=>.se [d,g a 1] λe=>.rr [e]) (.rr [ff])
def lF:GG cx 205 xf:=λ_ _=>A0
def ķ(p:Aa):IT:=
 .loop 5 [I 0,I 1,.int .u8 0,I 0] (λa=>.lt [p] λb=>.il [g a 3,b] λc=>.AX c (.op .YT [p,g a 3] λd=>.op (.int .or) [g a 2,d] λe=>.op (.Tg 256 1) [.Cz Jm,d] λf=>.ld f λh=>.op (.conv .i64) [h] λj=>.op (.un .xor) [j] λk=>.op (.int .and) [g a 1,k] λm=>.ia [g a 0,m] λn=>.ia [g a 3,I 1] λo=>.rn [n,j,e,o]) (.rx 0 [g a 0,g a 1,g a 2,g a 3])) (lx 0 (λs=>.ih [g s 2,.int .u8 128] λu=>.AX u (.ca 219 [p,.func (.func 220) [] []] λw=>.Th w λy=>.rr [y]) (.make 1 16 [S []] (g s 0) (g s 0) λz=>.loop 18 [I 0] (λa0=>.lt [p] λa1=>.il [g a0 0,a1] λa2=>.AX a2 (.op .YT [p,g a0 0] λa5=>.op (.Tg 256 1) [.Cz Jm,a5] λa7=>.ld a7 λa8=>.iq [a8,.int .u8 0] λb0=>.AX b0 (.ia [g a0 0,I 1] λb1=>.rn [b1]) (.rx 2 [g a0 0])) (.rx 2 [g a0 0])) (lx 2 (λb2=>.loop 21 [I 0,g b2 0,g b2 0] (λb3=>.lt [p] λb4=>.il [g b3 2,b4] λb5=>.AX b5 (.op .YT [p,g b3 2] λb6=>.op (.Tg 256 1) [.Cz Jm,b6] λb7=>.ld b7 λb8=>.ie [b8,.int .u8 0] λb9=>.AX b9 (.ia [g b3 2,I 1] λc1=>.rn [g b3 0,g b3 1,c1]) (.op (.PI 0 true true true) [p,g b3 1,g b3 2] λc2=>.ea 1 [z,g b3 0] λc3=>.store 1 c3 c2 (.ia [g b3 0,I 1] λc4=>.ia [g b3 2,I 1] λc5=>.loop 27 [c5] (λc6=>.lt [p] λc7=>.il [g c6 0,c7] λc8=>.AX c8 (.op .YT [p,g c6 0] λc9=>.op (.Tg 256 1) [.Cz Jm,c9] λd0=>.ld d0 λd1=>.iq [d1,.int .u8 0] λd2=>.AX d2 (.ia [g c6 0,I 1] λd3=>.rn [d3]) (.rx 6 [g c6 0])) (.rx 6 [g c6 0])) (λx d4=>match x with| .normal=>.fail| .exit i=>if i=6 then .rn [c4,g d4 0,g d4 0] else if i=5 then .rn [c4,g b3 1,g d4 0] else .ret (.exit i) [c4,g b3 1,g d4 0]| .ret=>.rr [c4,g b3 1,g d4 0])))) (.rx 4 [g b3 0,g b3 1,g b3 2])) (lx 4 (λd5=>.lt [p] λd6=>.il [g d5 1,d6] λd7=>.AX d7 (.op (.PI 0 true true false) [p,g d5 1] λd8=>.ea 1 [z,g d5 0] λd9=>.store 1 d9 d8 (.Th z λe0=>.rr [e0])) (.Th z λe1=>.rr [e1])) λd5=>.Th .slnil λe2=>.rr [e2])) λb2=>.Th .slnil λe3=>.rr [e3]))) λs=>.Th .slnil λe4=>.rr [e4])
def fo:JG cx 206 ķ:=λ_=>A0
def xg(p:Aa):IT:=
 .ca 221 [.int .i32 65,.int .i32 90] λa=>.FH a [p] λb=>.rr [b]
def lG:JG cx 207 xg:=λ_=>A0
def ĸ(p q:Aa):IT:=
 .cells 3 q λa=>.ln [p] λb=>.loop 2 [I 0,I 0] (λc=>.il [g c 1,b] λd=>.AX d (.ea 3 [p,g c 1] λe=>.load (some 3) e λf=>.op (.geq false [.i,.s,.s]) [a3 a,f] λh=>.AX h (.rr [g c 1,g c 1]) (.ia [g c 1,I 1] λj=>.rn [g c 0,j])) (.rx 0 [g c 0,g c 1])) (lx 0 (λk=>.rr [I (-1)]) λk=>.rr [g k 0])
def fq:GG cx 214 ĸ:=λ_ _=>A0
def Ĺ(p:Aa):IT:=
 .cells 4 p λa=>.op (.Cf 1) [S aLe,S aLb,S aK9] λb=>.ca 127 [a4 a,b] λc=>.rr [c]
def fu:JG cx 215 Ĺ:=λ_=>A0
def ĺ(p:Aa):IT:=
 .cells 4 p λa=>.op (.Cf 1) [S aLg,S aLq] λb=>.ca 127 [a4 a,b] λc=>.nt [c] λd=>.rr [d]
def fw:JG cx 216 ĺ:=λ_=>A0
def Ļ(p q:Aa):IT:=
 .cells 4 p λa=>.ie [g a 1,I 3] λb=>.AX b (.Co 113 [g a 1,g a 2] λc=>.rr [c]) (.ie [g a 1,I 2] λd=>.AX d (.Co 113 [g a 1,g a 2] λe=>.rr [e]) (.op (.Cf 1) [S aLE,S aLd,S aLe,S aLB,S aLH,S aLb,S [116,100],S aK9,S [116,104]] λf=>.ca 127 [a4 a,f] λh=>.AX h (.rr [tt]) (.ld q λj=>.ie [j,I 2] λk=>.AX k (.op (.Cf 1) [S [111,108],S [117,108]] λm=>.ca 127 [a4 a,m] λn=>.AX n (.rr [tt]) (.ld q λo=>.ie [o,I 3] λs=>.AX s (.op (.Cf 1) [S aLf] λu=>.ca 127 [a4 a,u] λw=>.rr [w]) (.rr [ff]))) (.ld q λy=>.ie [y,I 3] λz=>.AX z (.op (.Cf 1) [S aLf] λa0=>.ca 127 [a4 a,a0] λa1=>.rr [a1]) (.rr [ff])))))
def fx:GG cx 217 Ļ:=λ_ _=>A0
def ļ(p:Aa):IT:=
 .op (.Gu false .sl) [p,.slnil] λa=>.AX a (.rr [.slnil]) (.op (.Cf 4) [] λb=>.Ja 4 40 b p λc=>.rr [c])
def fy:JG cx 218 ļ:=λ_=>A0
def Ľ(p q:Aa):IT:=
 .make 2 16 [I 0,I 0] i0 (I 32) λ_=>.fail
def f_:GG cx 219 Ľ:=λ_ _=>A0
def xh(p q:Aa):IT:=
 .cells 1 p λa=>.cells 1 q λb=>.rr [.func (.func 231) [] [.Cz [g a 0],.Cz [g b 0]]]
def lH:GG cx 221 xh:=λ_ _=>A0
def xi(p q r:Aa):IT:=
 .ld q λa=>.ik [a,p] λb=>.AX b (.ld r λc=>.ik [p,c] λd=>.rr [d]) (.rr [ff])
def lI:Q0 cx 231 xi:=λ_ _ _=>A0
def S9(p:Aa):IT:=
 .op (.Gu false .sl) [p,.slnil] λa=>.AX a (.rr [.slnil]) (.op (.Cf 3) [] λb=>.Ja 3 40 b p λc=>.rr [c])
def Pv:JG cx 100027 S9:=λ_=>A0
end Go.Am
