/- Lemmas -/
import Derived.Test.YtjjnhgoknielgaaGreatDoorW9
import Derived.Test.YtjjnhgoknielgaaGreatDoorW17
set_option linter.all false
namespace Go.Am
open Go
def aFy(p:Ab):IT:=
 .Ck p 0 λ_ _ a=>.fa a 14 λ_ b=>.store 1 b ff (.fa p 1 λ_ c=>.fl c 1 λ_ d=>.op (.str .neq) [d,S [108,105]] λe=>.GY 100016 (.A0 e (.rn [S aZE]) (.rn [S [108,105]])) (nx (λf=>.Ck p 0 λ_ _ h=>.fa h 2 λ_ j=>.ca 121 [j] λk=>.ib [k,I 1] λm=>.loop 5 [m] (λn=>.ih [g n 0,I 0] λo=>.A0 o (.Ck p 0 λ_ _ s=>.fa s 2 λ_ u=>.ca 163 [u,g n 0] λw=>.cells 4 w λy=>.GY 200008 (.ie [g y 1,I 1] λz=>.A0 z (.Bz 116 [g y 2,g f 0] λa0=>.rn [a0]) (.rn [ff])) (λx a1=>match x with| .normal=>.A0 (g a1 0) (.ca 207 [p,g y 2,g y 2] λ_=>.rx 0 [g n 0]) (.GY 200010 (.Bz 167 [g y 1,g y 2] λa2=>.A0 a2 (.ie [g y 1,I 1] λa5=>.A0 a5 (.Bz 116 [g y 2,S aY4] λa7=>.nt [a7] λa8=>.rn [a8]) (.nt [ff] λb0=>.rn [b0])) (.rn [ff])) (λx b1=>match x with| .normal=>.A0 (g b1 0) (.rx 0 [g n 0]) (.ib [g n 0,I 1] λb2=>.rn [b2])| .exit i=>if i=2 then .ib [g n 0,I 1] λb3=>.rn [b3] else if i=1 then .ib [g n 0,I 1] λb4=>.rn [b4] else .ret (.exit i) [g n 0]| .ret=>.rr [g n 0]))| .exit i=>if i=2 then .ib [g n 0,I 1] λb5=>.rn [b5] else if i=1 then .ib [g n 0,I 1] λb6=>.rn [b6] else .ret (.exit i) [g n 0]| .ret=>.rr [g n 0])) (.rx 0 [g n 0])) (lx 0 (λb7=>.ca 131 [p] λ_=>.rr [.tuple []]) λb7=>.rr [.tuple []])) λf=>.rr [.tuple []]))
def cr:GL cx 141 aFy:=λ_=>AT
def aBd(p:Ab):IT:=
 .Ck p 0 λ_ _ a=>.ca 180 [a] λb=>.ca 208 [b,S aX0] λc=>.A0 c (.Ck p 0 λ_ _ d=>.fa d 2 λ_ e=>.ca 76 [e] λ_=>.Ck p 0 λ_ _ f=>.ca 84 [f] λ_=>.Ck p 0 λ_ _ h=>.fa p 1 λ_ j=>.load (some 12) j λk=>.ca 70 [h,k] λ_=>.rr [.tuple []]) (.Ck p 0 λ_ _ m=>.ca 84 [m] λ_=>.Ck p 0 λ_ _ n=>.fa p 1 λ_ o=>.load (some 12) o λs=>.ca 70 [n,s] λ_=>.rr [.tuple []])
def jA:GL cx 142 aBd:=λ_=>AT
def wB(p:Ab):IT:=
 .Ck p 0 λ_ _ a=>.ca 88 [a] λb=>.A0 b (.rr [.tuple []]) (.Ck p 0 λ_ _ c=>.fa c 2 λ_ d=>.ca 121 [d] λe=>.ie [e,I 0] λf=>.A0 f (.rr [.tuple []]) (.fa p 1 λ_ h=>.fl h 1 λ_ j=>.se [j,S aXM] λk=>.A0 k (.Ck p 0 λ_ m n=>.fa p 1 λ_ o=>.load (some 12) o λs=>.Ck p 0 λ_ _ u=>.fa u 2 λ_ w=>.ca 163 [w,I 0] λy=>.load (some 12) o λz=>.same s z (.ld m λa0=>.same n a0 (.op (.part 0 none) [y] λa1=>.ca 209 [n,s,a1] λ_=>.rr [.tuple []]))) (.ca 210 [p] λa2=>.op (.ext 0) [a2] λa5=>.op (.ext 1) [a2] λa7=>.A0 a7 (.Ck p 0 λ_ _ a8=>.fa a8 14 λ_ b0=>.store 1 b0 ff (.Ck p 0 λ_ _ b1=>.fa p 1 λ_ b2=>.load (some 12) b2 λb3=>.ca 209 [b1,b3,a5] λ_=>.rr [.tuple []])) (.rr [.tuple []]))))
def RL:GL cx 143 wB:=λ_=>AT
def Ĉ(p:Ab):IT:=
 .ca 210 [p] λa=>.op (.ext 0) [a] λb=>.op (.ext 1) [a] λc=>.nt [c] λd=>.A0 d (.rr [.tuple []]) (.Ck p 0 λ_ _ e=>.Ck e 14 λ_ _ f=>.nt [f] λh=>.A0 h (.rr [.tuple []]) (.Ck p 0 λ_ _ j=>.Ck j 0 λ_ _ k=>.ca 211 [k,b] λ_=>.loop 3 [] (λ_=>.Ck p 0 λ_ _ m=>.fa m 2 λ_ n=>.ca 121 [n] λo=>.ig [o,I 1] λs=>.A0 s (.Ck p 0 λ_ _ u=>.fa u 2 λ_ w=>.ca 76 [w] λ_=>.rn []) (.rx 0 [])) (lx 0 (λy=>.Ck p 0 λ_ _ z=>.fa p 1 λ_ a0=>.load (some 12) a0 λa1=>.ca 70 [z,a1] λ_=>.Ck p 0 λ_ _ a2=>.fa a2 4 λ_ a5=>.store 1 a5 (I 20) (.rr [.tuple []])) λy=>.rr [.tuple []])))
def Xb:GL cx 144 Ĉ:=λ_=>AT
def tw(p:Ab):IT:=
 .Ck p 0 λ_ _ a=>.ca 88 [a] λb=>.Ck p 0 λ_ _ c=>.Ck c 8 λ_ _ d=>.iq [d,I 0] λe=>.A0 e (.nt [b] λf=>.A0 f (.rr [.tuple []]) (.Ck p 0 λ_ _ h=>.ca 202 [h] λ_=>.Ck p 0 λ_ _ j=>.fa p 1 λ_ k=>.load (some 12) k λm=>.ca 70 [j,m] λn=>.nt [b] λo=>.A0 o (.Ck p 0 λ_ _ s=>.fa s 8 λ_ u=>.store 1 u n (.rr [.tuple []])) (.rr [.tuple []]))) (.Ck p 0 λ_ _ w=>.ca 202 [w] λ_=>.Ck p 0 λ_ _ y=>.fa p 1 λ_ z=>.load (some 12) z λa0=>.ca 70 [y,a0] λa1=>.nt [b] λa2=>.A0 a2 (.Ck p 0 λ_ _ a5=>.fa a5 8 λ_ a7=>.store 1 a7 a1 (.rr [.tuple []])) (.rr [.tuple []]))
def T6:GL cx 145 tw:=λ_=>AT
def t146(p:Ab):IT:=
 .ca 206 [p,S aXQ] λa=>.A0 a (.ca 207 [p,S aXQ,S []] λ_=>.Ck p 0 λ_ _ b=>.ca 84 [b] λ_=>.Ck p 0 λ_ _ c=>.fa p 1 λ_ d=>.load (some 12) d λe=>.ca 70 [c,e] λ_=>.Ck p 0 λ_ _ f=>.fa f 14 λ_ h=>.store 1 h ff (.rr [.tuple []])) (.Ck p 0 λ_ _ j=>.ca 84 [j] λ_=>.Ck p 0 λ_ _ k=>.fa p 1 λ_ m=>.load (some 12) m λn=>.ca 70 [k,n] λ_=>.Ck p 0 λ_ _ o=>.fa o 14 λ_ s=>.store 1 s ff (.rr [.tuple []]))
def jB:GL cx 146 t146:=λ_=>AT
def aBe(p:Ab):IT:=
 .Ck p 0 λ_ _ a=>.fa a 3 λ_ b=>.ca 212 [b,S [97]] λc=>.ih [c,I 0] λd=>.A0 d (.Ck p 0 λ_ _ e=>.fa e 3 λ_ f=>.fl f 0 λ_ h=>.ea 3 [h,c] λj=>.fl j 0 λ_ k=>.Ck p 0 λ_ _ m=>.ca 157 [m,S [97]] λ_=>.Ck p 0 λ_ _ n=>.fa n 3 λ_ o=>.ca 213 [o,k] λ_=>.Ck p 0 λ_ _ s=>.fa s 2 λ_ u=>.ca 127 [u,k] λ_=>.ca 134 [p] λ_=>.rr [.tuple []]) (.ca 134 [p] λ_=>.rr [.tuple []])
def jC:GL cx 147 aBe:=λ_=>AT
def t148(p:Ab):IT:=
 .Ck p 0 λ_ _ a=>.ca 84 [a] λ_=>.ca 206 [p,S aYc] λb=>.A0 b (.Ck p 0 λ_ _ c=>.ca 157 [c,S aYc] λ_=>.Ck p 0 λ_ _ d=>.ca 84 [d] λ_=>.Ck p 0 λ_ _ e=>.fa p 1 λ_ f=>.load (some 12) f λh=>.ca 204 [e,h] λ_=>.rr [.tuple []]) (.Ck p 0 λ_ _ j=>.fa p 1 λ_ k=>.load (some 12) k λm=>.ca 204 [j,m] λ_=>.rr [.tuple []])
def jD:GL cx 148 t148:=λ_=>AT
def aBf(p:Ab):IT:=
 .Ck p 0 λ_ _ a=>.Ck a 0 λ_ _ b=>.Ck p 0 λ_ _ c=>.Ck c 1 λ_ _ d=>.ca 13 [b,d] λe=>.op (.ext 0) [e] λf=>.op (.ext 1) [e] λ_=>.cells 13 f λh=>.nt [g h 10] λj=>.A0 j (.Ck p 0 λ_ _ k=>.ca 202 [k] λ_=>.Ck p 0 λ_ _ m=>.fa p 1 λ_ n=>.load (some 12) n λo=>.ca 70 [m,o] λ_=>.Ck p 0 λ_ _ s=>.fa s 14 λ_ u=>.store 1 u ff (.Ck p 0 λ_ _ w=>.fa w 4 λ_ y=>.store 1 y (I 9) (.rr [.tuple []]))) (.Ck p 0 λ_ _ z=>.fa p 1 λ_ a0=>.load (some 12) a0 λa1=>.ca 70 [z,a1] λ_=>.Ck p 0 λ_ _ a2=>.fa a2 14 λ_ a5=>.store 1 a5 ff (.Ck p 0 λ_ _ a7=>.fa a7 4 λ_ a8=>.store 1 a8 (I 9) (.rr [.tuple []])))
def jE:GL cx 149 aBf:=λ_=>AT
def pT(p:Ab):IT:=
 .Ck p 0 λ_ _ a=>.ca 84 [a] λ_=>.Ck p 0 λ_ _ b=>.fa p 1 λ_ c=>.load (some 12) c λd=>.ca 70 [b,d] λ_=>.Ck p 0 λ_ _ e=>.fa e 14 λ_ f=>.store 1 f ff (.Ck p 0 λ_ _ h=>.Ck h 4 λ_ _ j=>.ie [j,I 9] λk=>.A0 k (.Ck p 0 λ_ _ m=>.fa m 4 λ_ n=>.store 1 n (I 17) (.rr [.tuple []])) (.ie [j,I 11] λo=>.A0 o (.Ck p 0 λ_ _ s=>.fa s 4 λ_ u=>.store 1 u (I 17) (.rr [.tuple []])) (.ie [j,I 13] λw=>.A0 w (.Ck p 0 λ_ _ y=>.fa y 4 λ_ z=>.store 1 z (I 17) (.rr [.tuple []])) (.ie [j,I 14] λa0=>.A0 a0 (.Ck p 0 λ_ _ a1=>.fa a1 4 λ_ a2=>.store 1 a2 (I 17) (.rr [.tuple []])) (.ie [j,I 15] λa5=>.A0 a5 (.Ck p 0 λ_ _ a7=>.fa a7 4 λ_ a8=>.store 1 a8 (I 17) (.rr [.tuple []])) (.Ck p 0 λ_ _ b0=>.fa b0 4 λ_ b1=>.store 1 b1 (I 16) (.rr [.tuple []])))))))
def PR:GL cx 150 pT:=λ_=>AT
def aFz(p q:Ab):IT:=
 .cells 1 q λa=>.ca 195 [p,.func (.func 214) [] [.Cd [g a 0]]] λb=>.rr [b]
def cu:Gi cx 151 aFz:=λ_ _=>AT
def ĉ(p:Ab):IT:=
 .op (.Gs false .sl) [p,.slnil] λa=>.A0 a (.rr [.slnil]) (.op (.Cb 3) [] λb=>.Ks 3 48 b p λc=>.rr [c])
def Xc:GL cx 152 ĉ:=λ_=>AT
def aFA(p:Ab):IT:=
 .cells 3 p λa=>.op (.Dc [I 0,S [],ff,S [],ff,S [],ff,ff,.slnil,ff,S [],.int .i32 0] [(0,1),(1,1),(8,1)]) [I 2,g a 1,g a 2] λb=>.cells 12 b λc=>.rr [GM c]
def cw:GL cx 153 aFA:=λ_=>AT
def aBg(p:Ab):IT:=
 .ca 206 [p,S aXS] λa=>.nt [a] λb=>.A0 b (.rr [ff]) (.Ck p 0 λ_ _ c=>.fa c 4 λ_ d=>.store 1 d (I 19) (.fa p 1 λ_ e=>.fl e 1 λ_ f=>.se [f,S aXM] λh=>.rr [h]))
def jF:GL cx 154 aBg:=λ_=>AT
def aBh(p:Ab):IT:=
 .fa p 1 λ_ a=>.fl a 1 λ_ b=>.ca 206 [p,b] λc=>.A0 c (.fa p 1 λ_ d=>.fl d 1 λ_ e=>.ca 207 [p,e,S []] λ_=>.rr [.tuple []]) (.rr [.tuple []])
def jG:GL cx 155 aBh:=λ_=>AT
def aFB(p:Ab):IT:=
 .Ck p 0 λ_ _ a=>.fa p 1 λ_ b=>.fl b 1 λ_ c=>.ca 157 [a,c] λ_=>.rr [.tuple []]
def cy:GL cx 156 aFB:=λ_=>AT
def aBi(p q:Ab):IT:=
 .ca 102 [p] λa=>.nt [a] λb=>.A0 b (.rr [.tuple []]) (.ca 180 [p] λc=>.cells 4 c λd=>.op (.Cb 1) [q] λe=>.ca 164 [a4 d,e] λf=>.A0 f (.fa p 3 λ_ h=>.ca 215 [h,g d 0] λj=>.il [j,I 0] λk=>.A0 k (.fa p 2 λ_ m=>.ca 76 [m] λ_=>.rr [.tuple []]) (.loop 5 [I 0] (λn=>.il [g n 0,I 8] λo=>.A0 o (.ca 216 [p,q] λs=>.nt [s] λu=>.A0 u (.rr [g n 0]) (.ia [g n 0,I 1] λw=>.rn [w])) (.rx 0 [g n 0])) (lx 0 (λy=>.rr [.tuple []]) λy=>.rr [.tuple []]))) (.loop 5 [I 0] (λz=>.il [g z 0,I 8] λa0=>.A0 a0 (.ca 216 [p,q] λa1=>.nt [a1] λa2=>.A0 a2 (.rr [g z 0]) (.ia [g z 0,I 1] λa5=>.rn [a5])) (.rx 0 [g z 0])) (lx 0 (λa7=>.rr [.tuple []]) λa7=>.rr [.tuple []])))
def jH:Gi cx 157 aBi:=λ_ _=>AT
def aBj(p:Ab):IT:=
 .ca 191 [S aX1] λa=>.Ck p 0 λ_ _ b=>.fa b 2 λ_ c=>.ca 217 [c,I 1,a] λd=>.A0 d (.Ck p 0 λ_ _ e=>.fa e 2 λ_ f=>.ca 165 [f,S []] λ_=>.Ck p 0 λ_ _ h=>.fa h 2 λ_ j=>.ca 89 [j,a] λ_=>.rr [.tuple []]) (.rr [.tuple []])
def jI:GL cx 158 aBj:=λ_=>AT
def aBk(p:Ab):IT:=
 .fa p 1 λ_ a=>.fl a 1 λ_ b=>.ca 206 [p,b] λc=>.A0 c (.fa p 1 λ_ d=>.fl d 1 λ_ e=>.ca 207 [p,e,S []] λ_=>.Ck p 0 λ_ _ f=>.fa f 3 λ_ h=>.ca 90 [h] λ_=>.rr [.tuple []]) (.rr [.tuple []])
def jJ:GL cx 159 aBk:=λ_=>AT
def pU(p:Ab):IT:=
 .fa p 1 λ_ a=>.fl a 1 λ_ b=>.se [b,S [112]] λc=>.A0 c (.Ck p 0 λ_ _ d=>.fa d 2 λ_ e=>.op (.Cb 1) [b] λf=>.ca 217 [e,I 3,f] λh=>.nt [h] λj=>.A0 j (.op (.str .neq) [b,S [112]] λk=>.A0 k (.rr [.tuple []]) (.Ck p 0 λ_ m n=>.ca 71 [S [112]] λo=>.ld m λs=>.same n s (.ca 70 [n,o] λ_=>.ca 207 [p,b,b] λ_=>.rr [.tuple []]))) (.ca 207 [p,b,b] λ_=>.rr [.tuple []])) (.se [b,S [108,105]] λu=>.A0 u (.Ck p 0 λ_ _ w=>.fa w 2 λ_ y=>.op (.Cb 1) [b] λz=>.ca 217 [y,I 2,z] λa0=>.nt [a0] λa1=>.A0 a1 (.op (.str .neq) [b,S [112]] λa2=>.A0 a2 (.rr [.tuple []]) (.Ck p 0 λ_ a5 a7=>.ca 71 [S [112]] λa8=>.ld a5 λb0=>.same a7 b0 (.ca 70 [a7,a8] λ_=>.ca 207 [p,b,b] λ_=>.rr [.tuple []]))) (.ca 207 [p,b,b] λ_=>.rr [.tuple []])) (.Ck p 0 λ_ _ b1=>.fa b1 2 λ_ b2=>.op (.Cb 1) [b] λb3=>.ca 217 [b2,I 1,b3] λb4=>.nt [b4] λb5=>.A0 b5 (.op (.str .neq) [b,S [112]] λb6=>.A0 b6 (.rr [.tuple []]) (.Ck p 0 λ_ b7 b8=>.ca 71 [S [112]] λb9=>.ld b7 λc0=>.same b8 c0 (.ca 70 [b8,b9] λ_=>.ca 207 [p,b,b] λ_=>.rr [.tuple []]))) (.ca 207 [p,b,b] λ_=>.rr [.tuple []])))
def PS:GL cx 160 pU:=λ_=>AT
def tz(p:Ab):IT:=
 .Ck p 0 λ_ _ a=>.ca 88 [a] λb=>.A0 b (.ca 155 [p] λ_=>.rr [.tuple []]) (.Ck p 0 λ_ _ c=>.Ck c 8 λ_ _ d=>.Ck p 0 λ_ _ e=>.fa e 8 λ_ f=>.store 1 f i0 (.iq [d,I 0] λh=>.A0 h (.Ck p 0 λ_ _ j=>.fa j 2 λ_ k=>.ca 218 [k,I 1,d] λm=>.A0 m (.Ck p 0 λ_ _ n=>.fa n 2 λ_ o=>.ca 165 [o,S []] λ_=>.Ck p 0 λ_ _ s=>.fa s 2 λ_ u=>.ca 127 [u,d] λ_=>.rr [.tuple []]) (.rr [.tuple []])) (.rr [.tuple []])))
def T7:GL cx 161 tz:=λ_=>AT
def aFC(p:Ab):IT:=
 .ca 71 [S [98,114]] λa=>.fa p 1 λ_ b=>.store 12 b a (.ca 136 [p] λ_=>.rr [.tuple []])
def cz:GL cx 162 aFC:=λ_=>AT
def aFD(p q:Ab):IT:=
 .il [q,I 0] λa=>.A0 a (.op (.Dc [I 0,I 0,S [],ff] []) [] λb=>.cells 4 b λc=>.rr [a4 c]) (.ca 121 [p] λd=>.ih [q,d] λe=>.A0 e (.op (.Dc [I 0,I 0,S [],ff] []) [] λf=>.cells 4 f λh=>.rr [a4 h]) (.Ck p 0 λ_ _ j=>.ea 4 [j,q] λk=>.load (some 4) k λm=>.cells 4 m λn=>.rr [a4 n]))
def c_:Gi cx 163 aFD:=λ_ _=>AT
def t164(p q:Ab):IT:=
 .cells 4 p λa=>.ie [g a 1,I 1] λb=>.A0 b (.ca 190 [q,g a 2] λc=>.rr [c]) (.rr [ff])
def da:Gi cx 164 t164:=λ_ _=>AT
def aFE(p q:Ab):IT:=
 .cells 1 q λa=>.ca 168 [p,.func (.func 219) [] [.Cd [g a 0]],.func (.func 169) [] []] λb=>.rr [b]
def db:Gi cx 165 aFE:=λ_ _=>AT
def aBl(p q:Ab):IT:=
 .cells 1 q λa=>.ca 151 [p,g a 0] λb=>.il [b,I 0] λc=>.A0 c (.rr [I 0]) (.ca 168 [p,.func (.func 169) [] [],.func (.func 221) [] [.Cd [g a 0]]] λd=>.rr [d])
def jK:Gi cx 166 aBl:=λ_ _=>AT
def aFF(p q:Ab):IT:=
 .ie [p,I 3] λa=>.A0 a (.se [q,S aX5] λb=>.A0 b (.rr [tt]) (.Bz 222 [p,q] λc=>.rr [c])) (.ie [p,I 2] λd=>.A0 d (.se [q,S aZy] λe=>.A0 e (.rr [tt]) (.se [q,S aYt] λf=>.A0 f (.rr [tt]) (.se [q,S aX7] λh=>.rr [h]))) (.ie [p,I 1] λj=>.A0 j (swv q (.rr [tt]) (.rr [ff]) TN) (.rr [ff])))
def de:Gi cx 167 aFF:=λ_ _=>AT
def aFG(p q r:Ab):IT:=
 .loop 2 [I 0] (λa=>.ca 121 [p] λb=>.ig [b,I 1] λc=>.A0 c (.ca 122 [p] λd=>.EJ q [d] λe=>.nt [e] λf=>.A0 f (.ia [g a 0,I 1] λh=>.ca 76 [p] λj=>.EJ r [j] λk=>.A0 k (.rx 0 [h]) (.rn [h])) (.rx 0 [g a 0])) (.rx 0 [g a 0])) (lx 0 (λm=>.rr [g m 0]) λm=>.rr [I 0])
def df:Tf cx 168 aFG:=λ_ _ _=>AT
def aFH(p:Ab):IT:=
 .cells 4 p λ_=>.rr [ff]
def dg:GL cx 169 aFH:=λ_=>AT
def aFI(p q:Ab):IT:=
 .cells 4 p λa=>.ld q λb=>.ca 171 [a4 a,b] λc=>.rr [c]
def dh:Gi cx 170 aFI:=λ_ _=>AT
def aFJ(p q:Ab):IT:=
 .cells 4 p λa=>.ie [g a 1,I 1] λb=>.A0 b (.ca 190 [q,g a 2] λc=>.rr [c]) (.rr [ff])
def di:Gi cx 171 aFJ:=λ_ _=>AT
def aFK(p:Ab):IT:=
 .Ck p 0 λ_ _ a=>.ln [a] λb=>.loop 2 [b] (λc=>.ig [g c 0,I 0] λd=>.A0 d (.Ck p 0 λ_ _ e=>.ib [g c 0,I 1] λf=>.ea 3 [e,f] λh=>.fl h 0 λ_ j=>.iq [j,I 0] λk=>.A0 k (.ib [g c 0,I 1] λm=>.rn [m]) (.rx 0 [g c 0])) (.rx 0 [g c 0])) (lx 0 (λn=>.rr [g n 0]) λn=>.rr [I 0])
def dj:GL cx 172 aFK:=λ_=>AT
def aFL(p q r:Ab):IT:=
 .cells 4 q λa=>.ca 223 [] λb=>.ln [b] λc=>.loop 2 [I 0,ff,I 0] (λd=>.il [g d 2,c] λe=>.A0 e (.ea 2 [b,g d 2] λf=>.load (some 2) f λh=>.cells 2 h λj=>.op (.Cb 1) [g j 0] λk=>.ca 164 [a4 a,k] λm=>.A0 m (.rr [g j 1,tt,g d 2]) (.ia [g d 2,I 1] λn=>.rn [g d 0,g d 1,n])) (.rx 0 [g d 0,g d 1,g d 2])) (lx 0 (λo=>.op (.Cb 1) [S aYp] λs=>.ca 164 [a4 a,s] λu=>.A0 u (.ca 224 [p,r] λw=>.rr [.tuple [w,tt]]) (.GY 200009 (.op (.Cb 1) [S [116,100],S [116,104]] λy=>.ca 164 [a4 a,y] λz=>.A0 z (.ig [r,I 0] λa0=>.rn [a0]) (.rn [ff])) (λx a1=>match x with| .normal=>.A0 (g a1 0) (.rr [.tuple [I 15,tt]]) (.op (.Cb 1) [S aXP] λa2=>.ca 164 [a4 a,a2] λa5=>.A0 a5 (.Ck p 6 λ_ _ a7=>.ln [a7] λa8=>.ig [a8,I 0] λb0=>.A0 b0 (.Ck p 6 λ_ _ b1=>.ib [a8,I 1] λb2=>.ea 1 [b1,b2] λb3=>.ld b3 λb4=>.rr [.tuple [b4,tt]]) (.rr [.tuple [I 7,tt]])) (.GY 200016 (.op (.Cb 1) [S aXR] λb5=>.ca 164 [a4 a,b5] λb6=>.A0 b6 (.ig [r,I 0] λb7=>.rn [b7]) (.rn [ff])) (λx b8=>match x with| .normal=>.A0 (g b8 0) (.rr [.tuple [I 4,tt]]) (.op (.Cb 1) [S aXM] λb9=>.ca 164 [a4 a,b9] λc1=>.A0 c1 (.Ck p 7 λ_ _ c2=>.ie [c2,I 0] λc4=>.A0 c4 (.rr [.tuple [I 3,tt]]) (.rr [.tuple [I 6,tt]])) (.ie [r,I 0] λc5=>.rr [.tuple [I 7,c5]]))| .exit i=>if i=2 then .ie [r,I 0] λc6=>.rr [.tuple [I 7,c6]] else .fail| .ret=>.rr [.tuple [g o 0,g o 1]])))| .exit i=>if i=2 then .ie [r,I 0] λc8=>.rr [.tuple [I 7,c8]] else .fail| .ret=>.rr [.tuple [g o 0,g o 1]]))) λo=>.rr [.tuple [g o 0,g o 1]])
def dk:Tf cx 173 aFL:=λ_ _ _=>AT
def aBm(p:Ab):IT:=
 .cells 1 p λa=>.rr [.func (.func 232) [] [.Cd [g a 0]]]
def jL:GL cx 178 aBm:=λ_=>AT
def Ċ(p q:Ab):IT:=
 .cells 1 p λa=>.cells 1 q λb=>.rr [.func (.func 233) [] [.Cd [g a 0],.Cd [g b 0]]]
def Xd:Gi cx 179 Ċ:=λ_ _=>AT
def aFM(p:Ab):IT:=
 .ca 102 [p] λa=>.nt [a] λb=>.A0 b (.op (.Dc [I 0,I 0,S [],ff] []) [] λc=>.cells 4 c λd=>.rr [a4 d]) (.fa p 2 λ_ e=>.ca 122 [e] λf=>.cells 4 f λh=>.rr [a4 h])
def dm:GL cx 180 aFM:=λ_=>AT
def aFN(p:Ab):IT:=
 .fa p 2 λ_ a=>.fa p 2 λ_ b=>.ca 124 [a,S aX4] λc=>.ca 124 [b,S aXP] λd=>.ig [d,c] λe=>.A0 e (.fa p 2 λ_ f=>.ca 163 [f,d] λh=>.op (.part 0 none) [h] λj=>.rr [.tuple [j,I 0]]) (.il [c,I 0] λk=>.A0 k (.fa p 2 λ_ m=>.ca 163 [m,I 0] λn=>.op (.part 0 none) [n] λo=>.rr [.tuple [o,I 0]]) (.fa p 2 λ_ s=>.ca 163 [s,c] λu=>.op (.part 0 none) [u] λw=>.Ck p 0 λ_ _ y=>.ca 234 [y,w] λz=>.iq [z,I 0] λa0=>.A0 a0 (.rr [.tuple [z,w]]) (.fa p 2 λ_ a1=>.ib [c,I 1] λa2=>.op (.MA true) [a2,I 0] λa5=>.ca 163 [a1,a5] λa7=>.op (.part 0 none) [a7] λa8=>.rr [.tuple [a8,I 0]])))
def dr:GL cx 181 aFN:=λ_=>AT
def aFO(p q:Ab):IT:=
 .ca 235 [p,q] λa=>.ih [a,I 0] λb=>.rr [b]
def du:Gi cx 182 aFO:=λ_ _=>AT
def aFP(p q:Ab):IT:=
 .ld q λa=>.ca 104 [a,p] λb=>.op (.part 0 none) [b] λc=>.ie [c,I 4] λd=>.rr [d]
def dv:Gi cx 183 aFP:=λ_ _=>AT
def aFQ(p q r:Ab):IT:=
 .ln [p] λa=>.mem (.sN 1) [p,q,r,a] λ_=>.ie [q,r] λb=>.A0 b (.rr [p]) (.ln [p] λc=>.op (.Ro 1 false false true) [p,q] λd=>.op (.Ro 1 false true false) [p,r] λe=>.GZ 1 8 d e λf=>.ln [f] λh=>.mem (.ou 1 true true) [f,h,c] λj=>.mem (.clear 1 [I 0]) [j] λ_=>.rr [f])
def dw:Tf cx 185 aFQ:=λ_ _ _=>AT
def aFR(p:Ab):IT:=
 .Fq p λa=>.ln [a] λb=>.loop 3 [I 0] (λc=>.il [g c 0,b] λd=>.A0 d (.ea 1 [a,g c 0] λe=>.ld e λf=>.op (.conv .i32) [f] λh=>.Bz 238 [h] λj=>.A0 j (.ib [f,.int .u8 65] λk=>.ia [k,.int .u8 97] λm=>.ea 1 [a,g c 0] λn=>.store 1 n m (.ia [g c 0,I 1] λo=>.rn [o])) (.ia [g c 0,I 1] λs=>.rn [s])) (.rx 0 [g c 0])) (lx 0 (λu=>.UF a λw=>.op .XD [w] λy=>.rr [y]) λu=>.rr [S []])
def dx:GL cx 188 aFR:=λ_=>AT
def aFS(p q:Ab):IT:=
 .ln [p] λa=>.loop 2 [I 0,I 0] (λb=>.il [g b 1,a] λc=>.A0 c (.ea 1 [p,g b 1] λd=>.ld d λe=>.EJ q [e] λf=>.A0 f (.rr [g b 1,g b 1]) (.ia [g b 1,I 1] λh=>.rn [g b 0,h])) (.rx 0 [g b 0,g b 1])) (lx 0 (λj=>.rr [I (-1)]) λj=>.rr [g j 0])
def dy:Gi cx 189 aFS:=λ_ _=>AT
def aFT(p q:Ab):IT:=
 .ca 239 [p,q] λa=>.ih [a,I 0] λb=>.rr [b]
def dz:Gi cx 190 aFT:=λ_ _=>AT
def aFU(p:Ab):IT:=
 .ca 240 [p] λa=>.rr [a]
def d_:GL cx 191 aFU:=λ_=>AT
def aBn(p q r u:Ab):IT:=
 .cells 12 r λa=>.ca 103 [p,I 0] λb=>.op (.ext 0) [b] λc=>.op (.ext 1) [b] λd=>.EJ q [GM a,u,c] λe=>.cells 4 e λf=>.iq [g f 0,I 0] λh=>.A0 h (.ca 106 [p,g f 0,c,d] λ_=>.fa p 2 λ_ j=>.ca 126 [j,a4 f] λ_=>.rr [g f 0]) (.rr [g f 0])
def jM:Tq4 cx 192 aBn:=λ_ _ _ _=>AT
def aBo(p q r u:Ab):IT:=
 .cells 12 q λa=>.GY 200001 (.ca 102 [p] λb=>.nt [b] λc=>.A0 c (.rn [tt]) (.il [r,I 0] λd=>.A0 d (.rn [tt]) (.ig [r,I 7] λe=>.rn [e]))) (nx (λf=>.A0 (g f 0) (.op (.Dc [I 0,I 0,S [],ff] []) [] λh=>.cells 4 h λj=>.rr [a4 j]) (.ca 241 [r,g a 8] λk=>.ie [r,I 2] λm=>.GY 100032 (.A0 m (.Bz 242 [g a 1] λn=>.rn [n]) (.rn [g a 1])) (nx (λo=>.Ck p 0 λ_ s w=>.ca 244 [p,u] λy=>.ld s λz=>.same w z (.ca 243 [w,y,r,g o 0,k] λa0=>.op (.ext 0) [a0] λa1=>.op (.ext 1) [a0] λa2=>.iq [a2,I 0] λa5=>.A0 a5 (.op (.Dc [I 0,I 0,S [],ff] []) [] λa7=>.cells 4 a7 λa8=>.rr [a4 a8]) (.ca 245 [r,g o 0,k] λb0=>.op (.Dc [I 0,I 0,S [],ff] [(0,1),(1,1),(2,1),(3,1)]) [a1,r,g o 0,b0] λb1=>.cells 4 b1 λb2=>.rr [a4 b2]))) λo=>.rr [.agg [I 0,I 0,S [],ff]]))) λf=>.rr [.agg [I 0,I 0,S [],ff]])
def jN:Tq4 cx 193 aBo:=λ_ _ _ _=>AT
def aBp(p q:Ab):IT:=
 .op (.conv .u32) [q] λa=>.ik [a,.int .u32 2047] λb=>.A0 b (.op (.int .shr) [q,.int .u64 6] λc=>.op (.conv .u8) [c] λd=>.op (.int .or) [.int .u8 192,d] λe=>.op (.conv .u8) [q] λf=>.op (.int .and) [f,.int .u8 63] λh=>.op (.int .or) [.int .u8 128,h] λj=>.op (.Cb 1) [e,j] λk=>.GZ 1 1 p k λm=>.rr [m]) (.il [a,.int .u32 55296] λn=>.A0 n (.op (.int .shr) [q,.int .u64 12] λo=>.op (.conv .u8) [o] λs=>.op (.int .or) [.int .u8 224,s] λu=>.op (.int .shr) [q,.int .u64 6] λw=>.op (.conv .u8) [w] λy=>.op (.int .and) [y,.int .u8 63] λz=>.op (.int .or) [.int .u8 128,z] λa0=>.op (.conv .u8) [q] λa1=>.op (.int .and) [a1,.int .u8 63] λa2=>.op (.int .or) [.int .u8 128,a2] λa5=>.op (.Cb 1) [u,a0,a5] λa7=>.GZ 1 1 p a7 λa8=>.rr [a8]) (.il [.int .u32 57343,a] λb0=>.A0 b0 (.ik [a,.int .u32 65535] λb1=>.A0 b1 (.op (.int .shr) [q,.int .u64 12] λb2=>.op (.conv .u8) [b2] λb3=>.op (.int .or) [.int .u8 224,b3] λb4=>.op (.int .shr) [q,.int .u64 6] λb5=>.op (.conv .u8) [b5] λb6=>.op (.int .and) [b6,.int .u8 63] λb7=>.op (.int .or) [.int .u8 128,b7] λb8=>.op (.conv .u8) [q] λb9=>.op (.int .and) [b9,.int .u8 63] λc0=>.op (.int .or) [.int .u8 128,c0] λc1=>.op (.Cb 1) [b4,b8,c1] λc2=>.GZ 1 1 p c2 λc3=>.rr [c3]) (.ig [a,.int .u32 65535] λc4=>.A0 c4 (.ik [a,.int .u32 1114111] λc5=>.A0 c5 (.op (.int .shr) [q,.int .u64 18] λc6=>.op (.conv .u8) [c6] λc7=>.op (.int .or) [.int .u8 240,c7] λc8=>.op (.int .shr) [q,.int .u64 12] λc9=>.op (.conv .u8) [c9] λd0=>.op (.int .and) [d0,.int .u8 63] λd1=>.op (.int .or) [.int .u8 128,d1] λd2=>.op (.int .shr) [q,.int .u64 6] λd3=>.op (.conv .u8) [d3] λd4=>.op (.int .and) [d4,.int .u8 63] λd5=>.op (.int .or) [.int .u8 128,d5] λd6=>.op (.conv .u8) [q] λd7=>.op (.int .and) [d7,.int .u8 63] λd8=>.op (.int .or) [.int .u8 128,d8] λd9=>.op (.Cb 1) [c8,d2,d6,d9] λe0=>.GZ 1 1 p e0 λe1=>.rr [e1]) (.op (.Cb 1) [.int .u8 239,.int .u8 191,.int .u8 189] λe2=>.GZ 1 1 p e2 λe3=>.rr [e3])) (.op (.Cb 1) [.int .u8 239,.int .u8 191,.int .u8 189] λe4=>.GZ 1 1 p e4 λe5=>.rr [e5]))) (.ig [a,.int .u32 65535] λe6=>.A0 e6 (.ik [a,.int .u32 1114111] λe7=>.A0 e7 (.op (.int .shr) [q,.int .u64 18] λe8=>.op (.conv .u8) [e8] λe9=>.op (.int .or) [.int .u8 240,e9] λf0=>.op (.int .shr) [q,.int .u64 12] λf1=>.op (.conv .u8) [f1] λf2=>.op (.int .and) [f2,.int .u8 63] λf3=>.op (.int .or) [.int .u8 128,f3] λf4=>.op (.int .shr) [q,.int .u64 6] λf5=>.op (.conv .u8) [f5] λf6=>.op (.int .and) [f6,.int .u8 63] λf7=>.op (.int .or) [.int .u8 128,f7] λf8=>.op (.conv .u8) [q] λf9=>.op (.int .and) [f9,.int .u8 63] λh0=>.op (.int .or) [.int .u8 128,h0] λh1=>.op (.Cb 1) [f0,f4,f8,h1] λh2=>.GZ 1 1 p h2 λh3=>.rr [h3]) (.op (.Cb 1) [.int .u8 239,.int .u8 191,.int .u8 189] λh4=>.GZ 1 1 p h4 λh5=>.rr [h5])) (.op (.Cb 1) [.int .u8 239,.int .u8 191,.int .u8 189] λh6=>.GZ 1 1 p h6 λh7=>.rr [h7]))))
def jO:Gi cx 194 aBp:=λ_ _=>AT
def aFV(p q:Ab):IT:=
 .ca 121 [p] λa=>.ib [a,I 1] λb=>.loop 2 [I 0,b] (λc=>.ih [g c 1,I 0] λd=>.A0 d (.Ck p 0 λ_ _ e=>.ea 4 [e,g c 1] λf=>.load (some 4) f λh=>.EJ q [h] λj=>.A0 j (.rr [g c 1,g c 1]) (.ib [g c 1,I 1] λk=>.rn [g c 0,k])) (.rx 0 [g c 0,g c 1])) (lx 0 (λm=>.rr [I (-1)]) λm=>.rr [g m 0])
def ee:Gi cx 195 aFV:=λ_ _=>AT
def aFW(p q:Ab):IT:=
 .cells 4 p λa=>.ld q λb=>.op (.Cb 1) [b] λc=>.ca 171 [a4 a,c] λd=>.rr [d]
def ej:Gi cx 196 aFW:=λ_ _=>AT
def aFX(p:Ab):IT:=
 .cells 4 p λa=>.iq [g a 1,I 1] λb=>.A0 b (.rr [tt]) (.Bz 198 [g a 2] λc=>.nt [c] λd=>.rr [d])
def ew:GL cx 197 aFX:=λ_=>AT
def aFY(p:Ab):IT:=
 .se [p,S aYe] λa=>.A0 a (.rr [tt]) (.se [p,S aYm] λb=>.A0 b (.rr [tt]) (.se [p,S aYB] λc=>.A0 c (.rr [tt]) (.se [p,S [116,100]] λd=>.A0 d (.rr [tt]) (.se [p,S aYy] λe=>.A0 e (.rr [tt]) (.se [p,S [116,104]] λf=>.A0 f (.rr [tt]) (.se [p,S aYC] λh=>.A0 h (.rr [tt]) (.se [p,S [116,114]] λj=>.A0 j (.rr [tt]) (.Bz 220 [p] λk=>.rr [k]))))))))
def ey:GL cx 198 aFY:=λ_=>AT
def aFZ(p q r:Ab):IT:=
 .cells 4 q λa=>.op (.Ro 4 false false true) [p,r] λb=>.op (.append 4 40) [.slnil,b] λc=>.op (.Cb 4) [a4 a] λd=>.op (.append 4 40) [c,d] λe=>.op (.Ro 4 false true false) [p,r] λf=>.op (.append 4 40) [e,f] λh=>.rr [h]
def ez:Tf cx 199 aFZ:=λ_ _ _=>AT
def aF0(p q:Ab):IT:=
 .op (.Ro 4 false false true) [p,q] λa=>.op (.append 4 40) [.slnil,a] λb=>.ia [q,I 1] λc=>.op (.Ro 4 false true false) [p,c] λd=>.op (.append 4 40) [b,d] λe=>.rr [e]
def e_:Gi cx 200 aF0:=λ_ _=>AT
def aF1(p q:Ab):IT:=
 .ld q λa=>.EJ a [p] λ_=>.rr [ff]
def fc:Gi cx 201 aF1:=λ_ _=>AT
def aBq(p:Ab):IT:=
 .ca 102 [p] λa=>.A0 a (.fa p 2 λ_ b=>.op (.Cb 1) [S [112]] λc=>.ca 217 [b,I 3,c] λd=>.A0 d (.fa p 2 λ_ e=>.ca 165 [e,S [112]] λ_=>.fa p 2 λ_ f=>.op (.Cb 1) [S [112]] λh=>.ca 89 [f,h] λ_=>.rr [.tuple []]) (.rr [.tuple []])) (.rr [.tuple []])
def jP:GL cx 202 aBq:=λ_=>AT
def aF2(p:Ab):IT:=
 .lt [p] λa=>.ie [a,I 2] λb=>.A0 b (.op .Wg [p,I 0] λc=>.ie [c,.int .u8 104] λd=>.A0 d (.op .Wg [p,I 1] λe=>.ih [e,.int .u8 49] λf=>.A0 f (.op .Wg [p,I 1] λh=>.ik [h,.int .u8 54] λj=>.rr [j]) (.rr [ff])) (.rr [ff])) (.rr [ff])
def fg:GL cx 203 aF2:=λ_=>AT
def aF3(p q:Ab):IT:=
 .cells 12 q λa=>.ca 70 [p,GM a] λb=>.iq [b,I 0] λc=>.A0 c (.fa p 3 λ_ d=>.op (.Dc [I 0,S [],.slnil] [(0,1),(1,1),(2,1)]) [b,g a 1,g a 8] λe=>.ca 246 [d,e] λ_=>.rr [b]) (.rr [b])
def fh:Gi cx 204 aF3:=λ_ _=>AT
def aF4(p:Ab):IT:=
 .cells 12 p λa=>.ln [g a 8] λb=>.loop 2 [ff,I 0] (λc=>.il [g c 1,b] λd=>.A0 d (.ea 3 [g a 8,g c 1] λe=>.load (some 3) e λf=>.cells 3 f λh=>.se [g h 1,S aYW] λj=>.A0 j (.Bz 113 [g h 2,S aYK] λk=>.rr [k,g c 1]) (.ia [g c 1,I 1] λm=>.rn [g c 0,m])) (.rx 0 [g c 0,g c 1])) (lx 0 (λn=>.rr [ff]) λn=>.rr [g n 0])
def fj:GL cx 205 aF4:=λ_=>AT
def aF5(p q:Ab):IT:=
 .Ck p 0 λ_ _ a=>.fa a 2 λ_ b=>.op (.Cb 1) [q] λc=>.ca 217 [b,I 1,c] λd=>.rr [d]
def fk:Gi cx 206 aF5:=λ_ _=>AT
def aF6(p q r:Ab):IT:=
 .Ck p 0 λ_ _ a=>.fa a 2 λ_ b=>.ca 165 [b,r] λ_=>.Ck p 0 λ_ _ c=>.fa c 2 λ_ d=>.op (.Cb 1) [q] λe=>.ca 89 [d,e] λ_=>.rr [.tuple []]
def fq:Tf cx 207 aF6:=λ_ _ _=>AT
def aF7(p q:Ab):IT:=
 .cells 4 p λa=>.ie [g a 1,I 1] λb=>.A0 b (.se [g a 2,q] λc=>.rr [c]) (.rr [ff])
def fw:Gi cx 208 aF7:=λ_ _=>AT
def aBr(p q r:Ab):IT:=
 .cells 12 q λa=>.ca 102 [p] λb=>.nt [b] λc=>.A0 c (.rr [.tuple []]) (.ca 104 [p,r] λd=>.op (.part 0 none) [d] λe=>.iq [e,I 4] λf=>.A0 f (.rr [.tuple []]) (.ca 104 [p,r] λh=>.op (.part 6 none) [h] λj=>.ln [g a 8] λk=>.loop 4 [j,I 0] (λm=>.il [g m 1,k] λn=>.A0 n (.ea 3 [g a 8,g m 1] λo=>.load (some 3) o λs=>.cells 3 s λu=>.ca 247 [g m 0,.func (.func 248) [] [.Cd [g u 0,g u 1,g u 2]]] λw=>.nt [w] λy=>.A0 y (.fl (.Cd [g u 0,g u 1,g u 2]) 1 λ_ z=>.fl (.Cd [g u 0,g u 1,g u 2]) 2 λ_ a0=>.op (.Dc [I 0,S [],S []] [(1,1),(2,1)]) [z,a0] λa1=>.op (.Cb 3) [a1] λa2=>.GZ 3 40 (g m 0) a2 λa5=>.ia [g m 1,I 1] λa7=>.rn [a5,a7]) (.ia [g m 1,I 1] λa8=>.rn [g m 0,a8])) (.rx 0 [g m 0,g m 1])) (lx 0 (λb0=>.Ck p 0 λ_ _ b1=>.ca 249 [b1,r,g b0 0] λ_=>.rr [.tuple []]) λb0=>.rr [.tuple []])))
def jQ:Tf cx 209 aBr:=λ_ _ _=>AT
def aF8(p:Ab):IT:=
 .Ck p 0 λ_ _ a=>.fa a 2 λ_ b=>.ca 163 [b,I 1] λc=>.cells 4 c λd=>.Ck p 0 λ_ _ e=>.fa e 2 λ_ f=>.ca 121 [f] λh=>.ih [h,I 2] λj=>.A0 j (.ca 208 [a4 d,S aXS] λk=>.rr [.tuple [g d 0,k]]) (.rr [.tuple [g d 0,ff]])
def fx:GL cx 210 aF8:=λ_=>AT
def aF9(p q:Ab):IT:=
 .op (.Cb 1) [q] λa=>.ca 25 [p,a] λb=>.iq [b,I 0] λc=>.A0 c (.rr [b]) (.ca 110 [p,q] λ_=>.rr [I 0])
def fy:Gi cx 211 aF9:=λ_ _=>AT
def aGa(p q:Ab):IT:=
 .op (.WN false) [p,.ptr none] λa=>.A0 a (.rr [I (-1)]) (.Ck p 0 λ_ _ b=>.ln [b] λc=>.ib [c,I 1] λd=>.loop 4 [I 0,d] (λe=>.ih [g e 1,I 0] λf=>.A0 f (.Ck p 0 λ_ _ h=>.ea 3 [h,g e 1] λj=>.fl j 0 λ_ k=>.iq [k,I 0] λm=>.A0 m (.Ck p 0 λ_ _ n=>.ea 3 [n,g e 1] λo=>.fl o 1 λ_ s=>.se [s,q] λu=>.A0 u (.rr [g e 1,g e 1]) (.ib [g e 1,I 1] λw=>.rn [g e 0,w])) (.rx 0 [g e 0,g e 1])) (.rx 0 [g e 0,g e 1])) (lx 0 (λy=>.rr [I (-1)]) λy=>.rr [g y 0]))
def f_:Gi cx 212 aGa:=λ_ _=>AT
def aBs(p q:Ab):IT:=
 .ca 215 [p,q] λa=>.il [a,I 0] λb=>.A0 b (.rr [ff]) (.Ck p 0 λ_ _ c=>.ca 250 [c,a] λd=>.fa p 0 λ_ e=>.store 1 e d (.rr [tt]))
def jR:Gi cx 213 aBs:=λ_ _=>AT
end Go.Am
