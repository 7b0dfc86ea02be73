/- Lemmas -/
import Derived.Test.YtdejbjapknkdnaaGreatDoorV9
import Derived.Test.YtdejbjapknkdnaaGreatDoorV17
set_option linter.all false
namespace Go.Am
open Go
def aDO(p:Aa):IT:=
 .rr [ff]
def xZ:FW cx 129 aDO:=λ_=>by kernel_rfl
def sT(p:Aa):IT:=
 .fa p 1 λ_ a=>.fl a 1 λ_ b=>.se [b,S aXM] λc=>.AJ c (.call 123 [p] λ_=>.BZ p 0 λ_ _ d=>.fa d 18 λ_ e=>.store 1 e (I 5) (.rr [.tuple []])) (.se [b,S aXR] λf=>.AJ f (.BZ p 0 λ_ _ h=>.fa p 1 λ_ j=>.load (some 12) j λk=>.call 71 [h,k,I 2] λ_=>.BZ p 0 λ_ _ m=>.fa m 17 λ_ n=>.store 1 n tt (.BZ p 0 λ_ _ o=>.fa o 14 λ_ s=>.store 1 s ff (.rr [.tuple []]))) (.se [b,S aYI] λu=>.AJ u (.BZ p 0 λ_ _ w=>.call 198 [w] λ_=>.BZ p 0 λ_ _ y=>.call 80 [y] λ_=>.BZ p 0 λ_ _ z=>.fa z 14 λ_ a0=>.store 1 a0 ff (.BZ p 0 λ_ _ a1=>.fa p 1 λ_ a2=>.load (some 12) a2 λa5=>.call 71 [a1,a5,I 3] λ_=>.rr [.tuple []])) (.se [b,S aX4] λa7=>.AJ a7 (.BZ p 0 λ_ _ a8=>.fa a8 14 λ_ b0=>.store 1 b0 ff (.BZ p 0 λ_ _ b1=>.fa p 1 λ_ b2=>.load (some 12) b2 λb3=>.call 71 [b1,b3,I 3] λ_=>.rr [.tuple []])) (.BZ p 0 λ_ _ b4=>.fa p 1 λ_ b5=>.load (some 12) b5 λb6=>.call 71 [b4,b6,I 3] λ_=>.rr [.tuple []]))))
def Rd:FW cx 130 sT:=λ_=>by kernel_rfl
def ml(p:Aa):IT:=
 .call 202 [p,S aX7] λa=>.AJ a (.fa p 1 λ_ b=>.fl b 1 λ_ c=>.se [c,S [114,112]] λd=>.AJ d (.BZ p 0 λ_ _ e=>.fa e 2 λ_ f=>.call 156 [f,S aYf] λ_=>.BZ p 0 λ_ _ h=>.fa p 1 λ_ j=>.load (some 12) j λk=>.call 67 [h,k] λ_=>.rr [.tuple []]) (.fa p 1 λ_ m=>.fl m 1 λ_ n=>.se [n,S [114,116]] λo=>.AJ o (.BZ p 0 λ_ _ s=>.fa s 2 λ_ u=>.call 156 [u,S aYf] λ_=>.BZ p 0 λ_ _ w=>.fa p 1 λ_ y=>.load (some 12) y λz=>.call 67 [w,z] λ_=>.rr [.tuple []]) (.BZ p 0 λ_ _ a0=>.fa a0 2 λ_ a1=>.call 156 [a1,S []] λ_=>.BZ p 0 λ_ _ a2=>.fa p 1 λ_ a5=>.load (some 12) a5 λa7=>.call 67 [a2,a7] λ_=>.rr [.tuple []]))) (.BZ p 0 λ_ _ a8=>.fa p 1 λ_ b0=>.load (some 12) b0 λb1=>.call 67 [a8,b1] λ_=>.rr [.tuple []])
def TC:FW cx 131 ml:=λ_=>by kernel_rfl
def mm(p:Aa):IT:=
 .fa p 1 λ_ a=>.fl a 1 λ_ b=>.se [b,S aXY] λc=>.AJ c (.BZ p 0 λ_ _ d=>.call 80 [d] λ_=>.BZ p 0 λ_ _ e=>.fa p 1 λ_ f=>.load (some 12) f λh=>.call 110 [e,h,I 3] λ_=>.fa p 1 λ_ j=>.fl j 9 λ_ k=>.AJ k (.BZ p 0 λ_ _ m=>.fa m 2 λ_ n=>.call 73 [n] λ_=>.rr [.tuple []]) (.rr [.tuple []])) (.BZ p 0 λ_ _ o=>.call 80 [o] λ_=>.BZ p 0 λ_ _ s=>.fa p 1 λ_ u=>.load (some 12) u λw=>.call 110 [s,w,I 2] λ_=>.fa p 1 λ_ y=>.fl y 9 λ_ z=>.AJ z (.BZ p 0 λ_ _ a0=>.fa a0 2 λ_ a1=>.call 73 [a1] λ_=>.rr [.tuple []]) (.rr [.tuple []]))
def TD:FW cx 132 mm:=λ_=>by kernel_rfl
def aDP(p:Aa):IT:=
 .BZ p 0 λ_ _ a=>.fa a 14 λ_ b=>.store 1 b ff (.fa p 1 λ_ c=>.fl c 1 λ_ d=>.op (.str .neq) [d,S [108,105]] λe=>.Gp 100016 (.AJ e (.rn [S aYQ]) (.rn [S [108,105]])) (nx (λf=>.BZ p 0 λ_ _ h=>.fa h 2 λ_ j=>.call 10 [j] λk=>.ib [k,I 1] λm=>.loop 5 [m] (λn=>.ih [g n 0,I 0] λo=>.AJ o (.BZ p 0 λ_ _ s=>.fa s 2 λ_ u=>.call 12 [u,g n 0] λw=>.cells 4 w λy=>.Gp 200008 (.ie [g y 1,I 1] λz=>.AJ z (.AQ 109 [g y 2,g f 0] λa0=>.rn [a0]) (.rn [ff])) (λx a1=>match x with| .normal=>.AJ (g a1 0) (.call 203 [p,g y 2,g y 2] λ_=>.rx 0 [g n 0]) (.Gp 200010 (.AQ 158 [g y 1,g y 2] λa2=>.AJ a2 (.ie [g y 1,I 1] λa5=>.AJ a5 (.AQ 109 [g y 2,S aYe] λa7=>.nt [a7] λa8=>.rn [a8]) (.nt [ff] λb0=>.rn [b0])) (.rn [ff])) (λx b1=>match x with| .normal=>.AJ (g b1 0) (.rx 0 [g n 0]) (.ib [g n 0,I 1] λb2=>.rn [b2])| .exit i=>if i=2 then .ib [g n 0,I 1] λb3=>.rn [b3] else if i=1 then .ib [g n 0,I 1] λb4=>.rn [b4] else .ret (.exit i) [g n 0]| .ret=>.rr [g n 0]))| .exit i=>if i=2 then .ib [g n 0,I 1] λb5=>.rn [b5] else if i=1 then .ib [g n 0,I 1] λb6=>.rn [b6] else .ret (.exit i) [g n 0]| .ret=>.rr [g n 0])) (.rx 0 [g n 0])) (lx 0 (λb7=>.call 123 [p] λ_=>.rr [.tuple []]) λb7=>.rr [.tuple []])) λf=>.rr [.tuple []]))
def yA:FW cx 133 aDP:=λ_=>by kernel_rfl
def ŏ(p:Aa):IT:=
 .BZ p 0 λ_ _ a=>.call 175 [a] λb=>.call 204 [b,S aXb] λc=>.AJ c (.BZ p 0 λ_ _ d=>.fa d 2 λ_ e=>.call 73 [e] λ_=>.BZ p 0 λ_ _ f=>.call 80 [f] λ_=>.BZ p 0 λ_ _ h=>.fa p 1 λ_ j=>.load (some 12) j λk=>.call 67 [h,k] λ_=>.rr [.tuple []]) (.BZ p 0 λ_ _ m=>.call 80 [m] λ_=>.BZ p 0 λ_ _ n=>.fa p 1 λ_ o=>.load (some 12) o λs=>.call 67 [n,s] λ_=>.rr [.tuple []])
def fO:FW cx 134 ŏ:=λ_=>by kernel_rfl
def sU(p:Aa):IT:=
 .BZ p 0 λ_ _ a=>.call 84 [a] λb=>.AJ b (.rr [.tuple []]) (.BZ p 0 λ_ _ c=>.fa c 2 λ_ d=>.call 10 [d] λe=>.ie [e,I 0] λf=>.AJ f (.rr [.tuple []]) (.fa p 1 λ_ h=>.fl h 1 λ_ j=>.se [j,S aWS] λk=>.AJ k (.BZ p 0 λ_ m n=>.fa p 1 λ_ o=>.load (some 12) o λs=>.BZ p 0 λ_ _ u=>.fa u 2 λ_ w=>.call 12 [w,I 0] λy=>.load (some 12) o λz=>.same s z (.ld m λa0=>.same n a0 (.op (.part 0 none) [y] λa1=>.call 205 [n,s,a1] λ_=>.rr [.tuple []]))) (.call 206 [p] λa2=>.op (.ext 0) [a2] λa5=>.op (.ext 1) [a2] λa7=>.AJ a7 (.BZ p 0 λ_ _ a8=>.fa a8 14 λ_ b0=>.store 1 b0 ff (.BZ p 0 λ_ _ b1=>.fa p 1 λ_ b2=>.load (some 12) b2 λb3=>.call 205 [b1,b3,a5] λ_=>.rr [.tuple []])) (.rr [.tuple []]))))
def Re:FW cx 135 sU:=λ_=>by kernel_rfl
def zm(p:Aa):IT:=
 .call 206 [p] λa=>.op (.ext 0) [a] λb=>.op (.ext 1) [a] λc=>.nt [c] λd=>.AJ d (.rr [.tuple []]) (.BZ p 0 λ_ _ e=>.BZ e 14 λ_ _ f=>.nt [f] λh=>.AJ h (.rr [.tuple []]) (.BZ p 0 λ_ _ j=>.BZ j 0 λ_ _ k=>.call 207 [k,b] λ_=>.loop 3 [] (λ_=>.BZ p 0 λ_ _ m=>.fa m 2 λ_ n=>.call 10 [n] λo=>.ig [o,I 1] λs=>.AJ s (.BZ p 0 λ_ _ u=>.fa u 2 λ_ w=>.call 73 [w] λ_=>.rn []) (.rx 0 [])) (lx 0 (λy=>.BZ p 0 λ_ _ z=>.fa p 1 λ_ a0=>.load (some 12) a0 λa1=>.call 67 [z,a1] λ_=>.BZ p 0 λ_ _ a2=>.fa a2 4 λ_ a5=>.store 1 a5 (I 20) (.rr [.tuple []])) λy=>.rr [.tuple []])))
def WD:FW cx 136 zm:=λ_=>by kernel_rfl
def mn(p:Aa):IT:=
 .BZ p 0 λ_ _ a=>.call 84 [a] λb=>.BZ p 0 λ_ _ c=>.BZ c 8 λ_ _ d=>.iq [d,I 0] λe=>.AJ e (.nt [b] λf=>.AJ f (.rr [.tuple []]) (.BZ p 0 λ_ _ h=>.call 198 [h] λ_=>.BZ p 0 λ_ _ j=>.fa p 1 λ_ k=>.load (some 12) k λm=>.call 67 [j,m] λn=>.nt [b] λo=>.AJ o (.BZ p 0 λ_ _ s=>.fa s 8 λ_ u=>.store 1 u n (.rr [.tuple []])) (.rr [.tuple []]))) (.BZ p 0 λ_ _ w=>.call 198 [w] λ_=>.BZ p 0 λ_ _ y=>.fa p 1 λ_ z=>.load (some 12) z λa0=>.call 67 [y,a0] λa1=>.nt [b] λa2=>.AJ a2 (.BZ p 0 λ_ _ a5=>.fa a5 8 λ_ a7=>.store 1 a7 a1 (.rr [.tuple []])) (.rr [.tuple []]))
def TE:FW cx 137 mn:=λ_=>by kernel_rfl
def Ő(p:Aa):IT:=
 .call 202 [p,S aWV] λa=>.AJ a (.call 203 [p,S aWV,S []] λ_=>.BZ p 0 λ_ _ b=>.call 80 [b] λ_=>.BZ p 0 λ_ _ c=>.fa p 1 λ_ d=>.load (some 12) d λe=>.call 67 [c,e] λ_=>.BZ p 0 λ_ _ f=>.fa f 14 λ_ h=>.store 1 h ff (.rr [.tuple []])) (.BZ p 0 λ_ _ j=>.call 80 [j] λ_=>.BZ p 0 λ_ _ k=>.fa p 1 λ_ m=>.load (some 12) m λn=>.call 67 [k,n] λ_=>.BZ p 0 λ_ _ o=>.fa o 14 λ_ s=>.store 1 s ff (.rr [.tuple []]))
def fP:FW cx 138 Ő:=λ_=>by kernel_rfl
def ő(p:Aa):IT:=
 .BZ p 0 λ_ _ a=>.fa a 3 λ_ b=>.call 208 [b,S [97]] λc=>.ih [c,I 0] λd=>.AJ d (.BZ p 0 λ_ _ e=>.fa e 3 λ_ f=>.fl f 0 λ_ h=>.ea 3 [h,c] λj=>.fl j 0 λ_ k=>.BZ p 0 λ_ _ m=>.call 149 [m,S [97]] λ_=>.BZ p 0 λ_ _ n=>.fa n 3 λ_ o=>.call 209 [o,k] λ_=>.BZ p 0 λ_ _ s=>.fa s 2 λ_ u=>.call 119 [u,k] λ_=>.call 126 [p] λ_=>.rr [.tuple []]) (.call 126 [p] λ_=>.rr [.tuple []])
def fQ:FW cx 139 ő:=λ_=>by kernel_rfl
def Œ(p:Aa):IT:=
 .BZ p 0 λ_ _ a=>.call 80 [a] λ_=>.call 202 [p,S aXk] λb=>.AJ b (.BZ p 0 λ_ _ c=>.call 149 [c,S aXk] λ_=>.BZ p 0 λ_ _ d=>.call 80 [d] λ_=>.BZ p 0 λ_ _ e=>.fa p 1 λ_ f=>.load (some 12) f λh=>.call 200 [e,h] λ_=>.rr [.tuple []]) (.BZ p 0 λ_ _ j=>.fa p 1 λ_ k=>.load (some 12) k λm=>.call 200 [j,m] λ_=>.rr [.tuple []])
def fR:FW cx 140 Œ:=λ_=>by kernel_rfl
def œ(p:Aa):IT:=
 .BZ p 0 λ_ _ a=>.BZ a 0 λ_ _ b=>.BZ p 0 λ_ _ c=>.BZ c 1 λ_ _ d=>.call 55 [b,d] λe=>.op (.ext 0) [e] λf=>.op (.ext 1) [e] λ_=>.cells 13 f λh=>.nt [g h 10] λj=>.AJ j (.BZ p 0 λ_ _ k=>.call 198 [k] λ_=>.BZ p 0 λ_ _ m=>.fa p 1 λ_ n=>.load (some 12) n λo=>.call 67 [m,o] λ_=>.BZ p 0 λ_ _ s=>.fa s 14 λ_ u=>.store 1 u ff (.BZ p 0 λ_ _ w=>.fa w 4 λ_ y=>.store 1 y (I 9) (.rr [.tuple []]))) (.BZ p 0 λ_ _ z=>.fa p 1 λ_ a0=>.load (some 12) a0 λa1=>.call 67 [z,a1] λ_=>.BZ p 0 λ_ _ a2=>.fa a2 14 λ_ a5=>.store 1 a5 ff (.BZ p 0 λ_ _ a7=>.fa a7 4 λ_ a8=>.store 1 a8 (I 9) (.rr [.tuple []])))
def fS:FW cx 141 œ:=λ_=>by kernel_rfl
def mX(p:Aa):IT:=
 .BZ p 0 λ_ _ a=>.call 80 [a] λ_=>.BZ p 0 λ_ _ b=>.fa p 1 λ_ c=>.load (some 12) c λd=>.call 67 [b,d] λ_=>.BZ p 0 λ_ _ e=>.fa e 14 λ_ f=>.store 1 f ff (.BZ p 0 λ_ _ h=>.BZ h 4 λ_ _ j=>.ie [j,I 9] λk=>.AJ k (.BZ p 0 λ_ _ m=>.fa m 4 λ_ n=>.store 1 n (I 17) (.rr [.tuple []])) (.ie [j,I 11] λo=>.AJ o (.BZ p 0 λ_ _ s=>.fa s 4 λ_ u=>.store 1 u (I 17) (.rr [.tuple []])) (.ie [j,I 13] λw=>.AJ w (.BZ p 0 λ_ _ y=>.fa y 4 λ_ z=>.store 1 z (I 17) (.rr [.tuple []])) (.ie [j,I 14] λa0=>.AJ a0 (.BZ p 0 λ_ _ a1=>.fa a1 4 λ_ a2=>.store 1 a2 (I 17) (.rr [.tuple []])) (.ie [j,I 15] λa5=>.AJ a5 (.BZ p 0 λ_ _ a7=>.fa a7 4 λ_ a8=>.store 1 a8 (I 17) (.rr [.tuple []])) (.BZ p 0 λ_ _ b0=>.fa b0 4 λ_ b1=>.store 1 b1 (I 16) (.rr [.tuple []])))))))
def O5:FW cx 142 mX:=λ_=>by kernel_rfl
def aDQ(p q:Aa):IT:=
 .cells 1 q λa=>.call 191 [p,.func (.func 210) [] [.B4 [g a 0]]] λb=>.rr [b]
def yB:Ff cx 143 aDQ:=λ_ _=>by kernel_rfl
def zn(p:Aa):IT:=
 .op (.FM false .sl) [p,.slnil] λa=>.AJ a (.rr [.slnil]) (.op (.Cl 3) [] λb=>.JS 3 48 b p λc=>.rr [c])
def WE:FW cx 144 zn:=λ_=>by kernel_rfl
def aDR(p:Aa):IT:=
 .cells 3 p λa=>.op (.CT [I 0,S [],ff,S [],ff,S [],ff,ff,.slnil,ff,S [],.int .i32 0] [(0,1),(1,1),(8,1)]) [I 2,g a 1,g a 2] λb=>.cells 12 b λc=>.rr [Gf c]
def yC:FW cx 145 aDR:=λ_=>by kernel_rfl
def t146(p:Aa):IT:=
 .call 202 [p,S aWX] λa=>.nt [a] λb=>.AJ b (.rr [ff]) (.BZ p 0 λ_ _ c=>.fa c 4 λ_ d=>.store 1 d (I 19) (.fa p 1 λ_ e=>.fl e 1 λ_ f=>.se [f,S aWS] λh=>.rr [h]))
def fU:FW cx 146 t146:=λ_=>by kernel_rfl
def Ŕ(p:Aa):IT:=
 .fa p 1 λ_ a=>.fl a 1 λ_ b=>.call 202 [p,b] λc=>.AJ c (.fa p 1 λ_ d=>.fl d 1 λ_ e=>.call 203 [p,e,S []] λ_=>.rr [.tuple []]) (.rr [.tuple []])
def fV:FW cx 147 Ŕ:=λ_=>by kernel_rfl
def t148(p:Aa):IT:=
 .BZ p 0 λ_ _ a=>.fa p 1 λ_ b=>.fl b 1 λ_ c=>.call 149 [a,c] λ_=>.rr [.tuple []]
def yD:FW cx 148 t148:=λ_=>by kernel_rfl
def ŕ(p q:Aa):IT:=
 .call 31 [p] λa=>.nt [a] λb=>.AJ b (.rr [.tuple []]) (.call 175 [p] λc=>.cells 4 c λd=>.op (.Cl 1) [q] λe=>.call 155 [a4 d,e] λf=>.AJ f (.fa p 3 λ_ h=>.call 211 [h,g d 0] λj=>.il [j,I 0] λk=>.AJ k (.fa p 2 λ_ m=>.call 73 [m] λ_=>.rr [.tuple []]) (.loop 5 [I 0] (λn=>.il [g n 0,I 8] λo=>.AJ o (.call 212 [p,q] λs=>.nt [s] λu=>.AJ u (.rr [g n 0]) (.ia [g n 0,I 1] λw=>.rn [w])) (.rx 0 [g n 0])) (lx 0 (λy=>.rr [.tuple []]) λy=>.rr [.tuple []]))) (.loop 5 [I 0] (λz=>.il [g z 0,I 8] λa0=>.AJ a0 (.call 212 [p,q] λa1=>.nt [a1] λa2=>.AJ a2 (.rr [g z 0]) (.ia [g z 0,I 1] λa5=>.rn [a5])) (.rx 0 [g z 0])) (lx 0 (λa7=>.rr [.tuple []]) λa7=>.rr [.tuple []])))
def fW:Ff cx 149 ŕ:=λ_ _=>by kernel_rfl
def Ŗ(p:Aa):IT:=
 .call 187 [S aW7] λa=>.BZ p 0 λ_ _ b=>.fa b 2 λ_ c=>.call 213 [c,I 1,a] λd=>.AJ d (.BZ p 0 λ_ _ e=>.fa e 2 λ_ f=>.call 156 [f,S []] λ_=>.BZ p 0 λ_ _ h=>.fa h 2 λ_ j=>.call 85 [j,a] λ_=>.rr [.tuple []]) (.rr [.tuple []])
def fX:FW cx 150 Ŗ:=λ_=>by kernel_rfl
def ŗ(p:Aa):IT:=
 .fa p 1 λ_ a=>.fl a 1 λ_ b=>.call 202 [p,b] λc=>.AJ c (.fa p 1 λ_ d=>.fl d 1 λ_ e=>.call 203 [p,e,S []] λ_=>.BZ p 0 λ_ _ f=>.fa f 3 λ_ h=>.call 86 [h] λ_=>.rr [.tuple []]) (.rr [.tuple []])
def fY:FW cx 151 ŗ:=λ_=>by kernel_rfl
def mY(p:Aa):IT:=
 .fa p 1 λ_ a=>.fl a 1 λ_ b=>.se [b,S [112]] λc=>.AJ c (.BZ p 0 λ_ _ d=>.fa d 2 λ_ e=>.op (.Cl 1) [b] λf=>.call 213 [e,I 3,f] λh=>.nt [h] λj=>.AJ j (.op (.str .neq) [b,S [112]] λk=>.AJ k (.rr [.tuple []]) (.BZ p 0 λ_ m n=>.call 68 [S [112]] λo=>.ld m λs=>.same n s (.call 67 [n,o] λ_=>.call 203 [p,b,b] λ_=>.rr [.tuple []]))) (.call 203 [p,b,b] λ_=>.rr [.tuple []])) (.se [b,S [108,105]] λu=>.AJ u (.BZ p 0 λ_ _ w=>.fa w 2 λ_ y=>.op (.Cl 1) [b] λz=>.call 213 [y,I 2,z] λa0=>.nt [a0] λa1=>.AJ a1 (.op (.str .neq) [b,S [112]] λa2=>.AJ a2 (.rr [.tuple []]) (.BZ p 0 λ_ a5 a7=>.call 68 [S [112]] λa8=>.ld a5 λb0=>.same a7 b0 (.call 67 [a7,a8] λ_=>.call 203 [p,b,b] λ_=>.rr [.tuple []]))) (.call 203 [p,b,b] λ_=>.rr [.tuple []])) (.BZ p 0 λ_ _ b1=>.fa b1 2 λ_ b2=>.op (.Cl 1) [b] λb3=>.call 213 [b2,I 1,b3] λb4=>.nt [b4] λb5=>.AJ b5 (.op (.str .neq) [b,S [112]] λb6=>.AJ b6 (.rr [.tuple []]) (.BZ p 0 λ_ b7 b8=>.call 68 [S [112]] λb9=>.ld b7 λc0=>.same b8 c0 (.call 67 [b8,b9] λ_=>.call 203 [p,b,b] λ_=>.rr [.tuple []]))) (.call 203 [p,b,b] λ_=>.rr [.tuple []])))
def O6:FW cx 152 mY:=λ_=>by kernel_rfl
def mo(p:Aa):IT:=
 .BZ p 0 λ_ _ a=>.call 84 [a] λb=>.AJ b (.call 147 [p] λ_=>.rr [.tuple []]) (.BZ p 0 λ_ _ c=>.BZ c 8 λ_ _ d=>.BZ p 0 λ_ _ e=>.fa e 8 λ_ f=>.store 1 f i0 (.iq [d,I 0] λh=>.AJ h (.BZ p 0 λ_ _ j=>.fa j 2 λ_ k=>.call 214 [k,I 1,d] λm=>.AJ m (.BZ p 0 λ_ _ n=>.fa n 2 λ_ o=>.call 156 [o,S []] λ_=>.BZ p 0 λ_ _ s=>.fa s 2 λ_ u=>.call 119 [u,d] λ_=>.rr [.tuple []]) (.rr [.tuple []])) (.rr [.tuple []])))
def TF:FW cx 153 mo:=λ_=>by kernel_rfl
def aDS(p:Aa):IT:=
 .call 68 [S [98,114]] λa=>.fa p 1 λ_ b=>.store 12 b a (.call 128 [p] λ_=>.rr [.tuple []])
def yE:FW cx 154 aDS:=λ_=>by kernel_rfl
def aDT(p q:Aa):IT:=
 .cells 4 p λa=>.ie [g a 1,I 1] λb=>.AJ b (.call 186 [q,g a 2] λc=>.rr [c]) (.rr [ff])
def yF:Ff cx 155 aDT:=λ_ _=>by kernel_rfl
def aDU(p q:Aa):IT:=
 .cells 1 q λa=>.call 159 [p,.func (.func 215) [] [.B4 [g a 0]],.func (.func 160) [] []] λb=>.rr [b]
def yG:Ff cx 156 aDU:=λ_ _=>by kernel_rfl
def Ř(p q:Aa):IT:=
 .cells 1 q λa=>.call 143 [p,g a 0] λb=>.il [b,I 0] λc=>.AJ c (.rr [I 0]) (.call 159 [p,.func (.func 160) [] [],.func (.func 217) [] [.B4 [g a 0]]] λd=>.rr [d])
def fZ:Ff cx 157 Ř:=λ_ _=>by kernel_rfl
def aDV(p q:Aa):IT:=
 .ie [p,I 3] λa=>.AJ a (.se [q,S aW5] λb=>.AJ b (.rr [tt]) (.AQ 218 [p,q] λc=>.rr [c])) (.ie [p,I 2] λd=>.AJ d (.se [q,S aYJ] λe=>.AJ e (.rr [tt]) (.se [q,S aXB] λf=>.AJ f (.rr [tt]) (.se [q,S aW4] λh=>.rr [h]))) (.ie [p,I 1] λj=>.AJ j (swv q (.rr [tt]) (.rr [ff]) Of) (.rr [ff])))
def yH:Ff cx 158 aDV:=λ_ _=>by kernel_rfl
def aDW(p q r:Aa):IT:=
 .loop 2 [I 0] (λa=>.call 10 [p] λb=>.ig [b,I 1] λc=>.AJ c (.call 114 [p] λd=>.El q [d] λe=>.nt [e] λf=>.AJ f (.ia [g a 0,I 1] λh=>.call 73 [p] λj=>.El r [j] λk=>.AJ k (.rx 0 [h]) (.rn [h])) (.rx 0 [g a 0])) (.rx 0 [g a 0])) (lx 0 (λm=>.rr [g m 0]) λm=>.rr [I 0])
def yI:RL cx 159 aDW:=λ_ _ _=>by kernel_rfl
def aDX(p:Aa):IT:=
 .cells 4 p λ_=>.rr [ff]
def yJ:FW cx 160 aDX:=λ_=>by kernel_rfl
def aDY(p q:Aa):IT:=
 .cells 4 p λa=>.ld q λb=>.call 162 [a4 a,b] λc=>.rr [c]
def yK:Ff cx 161 aDY:=λ_ _=>by kernel_rfl
def aDZ(p q:Aa):IT:=
 .cells 4 p λa=>.ie [g a 1,I 1] λb=>.AJ b (.call 186 [q,g a 2] λc=>.rr [c]) (.rr [ff])
def yL:Ff cx 162 aDZ:=λ_ _=>by kernel_rfl
def aD0(p:Aa):IT:=
 .BZ p 0 λ_ _ a=>.ln [a] λb=>.loop 2 [b] (λc=>.ig [g c 0,I 0] λd=>.AJ d (.BZ p 0 λ_ _ e=>.ib [g c 0,I 1] λf=>.ea 3 [e,f] λh=>.fl h 0 λ_ j=>.iq [j,I 0] λk=>.AJ k (.ib [g c 0,I 1] λm=>.rn [m]) (.rx 0 [g c 0])) (.rx 0 [g c 0])) (lx 0 (λn=>.rr [g n 0]) λn=>.rr [I 0])
def yM:FW cx 163 aD0:=λ_=>by kernel_rfl
def t164(p q r:Aa):IT:=
 .cells 4 q λa=>.call 219 [] λb=>.ln [b] λc=>.loop 2 [I 0,ff,I 0] (λd=>.il [g d 2,c] λe=>.AJ e (.ea 2 [b,g d 2] λf=>.load (some 2) f λh=>.cells 2 h λj=>.op (.Cl 1) [g j 0] λk=>.call 155 [a4 a,k] λm=>.AJ m (.rr [g j 1,tt,g d 2]) (.ia [g d 2,I 1] λn=>.rn [g d 0,g d 1,n])) (.rx 0 [g d 0,g d 1,g d 2])) (lx 0 (λo=>.op (.Cl 1) [S aXz] λs=>.call 155 [a4 a,s] λu=>.AJ u (.call 220 [p,r] λw=>.rr [.tuple [w,tt]]) (.Gp 200009 (.op (.Cl 1) [S [116,100],S [116,104]] λy=>.call 155 [a4 a,y] λz=>.AJ z (.ig [r,I 0] λa0=>.rn [a0]) (.rn [ff])) (λx a1=>match x with| .normal=>.AJ (g a1 0) (.rr [.tuple [I 15,tt]]) (.op (.Cl 1) [S aWU] λa2=>.call 155 [a4 a,a2] λa5=>.AJ a5 (.BZ p 6 λ_ _ a7=>.ln [a7] λa8=>.ig [a8,I 0] λb0=>.AJ b0 (.BZ p 6 λ_ _ b1=>.ib [a8,I 1] λb2=>.ea 1 [b1,b2] λb3=>.ld b3 λb4=>.rr [.tuple [b4,tt]]) (.rr [.tuple [I 7,tt]])) (.Gp 200016 (.op (.Cl 1) [S aWW] λb5=>.call 155 [a4 a,b5] λb6=>.AJ b6 (.ig [r,I 0] λb7=>.rn [b7]) (.rn [ff])) (λx b8=>match x with| .normal=>.AJ (g b8 0) (.rr [.tuple [I 4,tt]]) (.op (.Cl 1) [S aWS] λb9=>.call 155 [a4 a,b9] λc1=>.AJ c1 (.BZ p 7 λ_ _ c2=>.ie [c2,I 0] λc4=>.AJ c4 (.rr [.tuple [I 3,tt]]) (.rr [.tuple [I 6,tt]])) (.ie [r,I 0] λc5=>.rr [.tuple [I 7,c5]]))| .exit i=>if i=2 then .ie [r,I 0] λc6=>.rr [.tuple [I 7,c6]] else .fail| .ret=>.rr [.tuple [g o 0,g o 1]])))| .exit i=>if i=2 then .ie [r,I 0] λc8=>.rr [.tuple [I 7,c8]] else .fail| .ret=>.rr [.tuple [g o 0,g o 1]]))) λo=>.rr [.tuple [g o 0,g o 1]])
def yN:RL cx 164 t164:=λ_ _ _=>by kernel_rfl
def ř(p:Aa):IT:=
 .op (.FM false .sl) [p,.slnil] λa=>.AJ a (.rr [.slnil]) (.op (.Cl 1) [] λb=>.Gn 1 8 b p λc=>.rr [c])
def gA:FW cx 172 ř:=λ_=>by kernel_rfl
def Ś(p:Aa):IT:=
 .cells 1 p λa=>.rr [.func (.func 229) [] [.B4 [g a 0]]]
def gB:FW cx 173 Ś:=λ_=>by kernel_rfl
def zo(p q:Aa):IT:=
 .cells 1 p λa=>.cells 1 q λb=>.rr [.func (.func 230) [] [.B4 [g a 0],.B4 [g b 0]]]
def WG:Ff cx 174 zo:=λ_ _=>by kernel_rfl
def aD1(p:Aa):IT:=
 .call 31 [p] λa=>.nt [a] λb=>.AJ b (.op (.CT [I 0,I 0,S [],ff] []) [] λc=>.cells 4 c λd=>.rr [a4 d]) (.fa p 2 λ_ e=>.call 114 [e] λf=>.cells 4 f λh=>.rr [a4 h])
def yO:FW cx 175 aD1:=λ_=>by kernel_rfl
def aD2(p:Aa):IT:=
 .fa p 2 λ_ a=>.fa p 2 λ_ b=>.call 116 [a,S aXa] λc=>.call 116 [b,S aWU] λd=>.ig [d,c] λe=>.AJ e (.fa p 2 λ_ f=>.call 12 [f,d] λh=>.op (.part 0 none) [h] λj=>.rr [.tuple [j,I 0]]) (.il [c,I 0] λk=>.AJ k (.fa p 2 λ_ m=>.call 12 [m,I 0] λn=>.op (.part 0 none) [n] λo=>.rr [.tuple [o,I 0]]) (.fa p 2 λ_ s=>.call 12 [s,c] λu=>.op (.part 0 none) [u] λw=>.BZ p 0 λ_ _ y=>.call 231 [y,w] λz=>.iq [z,I 0] λa0=>.AJ a0 (.rr [.tuple [z,w]]) (.fa p 2 λ_ a1=>.ib [c,I 1] λa2=>.op (.L0 true) [a2,I 0] λa5=>.call 12 [a1,a5] λa7=>.op (.part 0 none) [a7] λa8=>.rr [.tuple [a8,I 0]])))
def yP:FW cx 176 aD2:=λ_=>by kernel_rfl
def aD3(p q:Aa):IT:=
 .call 232 [p,q] λa=>.ih [a,I 0] λb=>.rr [b]
def yQ:Ff cx 177 aD3:=λ_ _=>by kernel_rfl
def ś(p q:Aa):IT:=
 .call 52 [p,q] λa=>.nt [a] λb=>.AJ b (.rr [.slnil]) (.call 57 [p,q] λc=>.fa c 0 λ_ d=>.fl d 2 λ_ e=>.call 172 [e] λf=>.rr [f])
def gC:Ff cx 178 ś:=λ_ _=>by kernel_rfl
def aD4(p q:Aa):IT:=
 .ld q λa=>.call 97 [a,p] λb=>.op (.part 0 none) [b] λc=>.ie [c,I 4] λd=>.rr [d]
def yR:Ff cx 179 aD4:=λ_ _=>by kernel_rfl
def aD5(p q r:Aa):IT:=
 .ln [p] λa=>.mem (.pC 1) [p,q,r,a] λ_=>.ie [q,r] λb=>.AJ b (.rr [p]) (.ln [p] λc=>.op (.PQ 1 false false true) [p,q] λd=>.op (.PQ 1 false true false) [p,r] λe=>.F8 1 8 d e λf=>.ln [f] λh=>.mem (.ic 1 true true) [f,h,c] λj=>.mem (.clear 1 [I 0]) [j] λ_=>.rr [f])
def yS:RL cx 181 aD5:=λ_ _ _=>by kernel_rfl
def aD6(p:Aa):IT:=
 .E0 p λa=>.ln [a] λb=>.loop 3 [I 0] (λc=>.il [g c 0,b] λd=>.AJ d (.ea 1 [a,g c 0] λe=>.ld e λf=>.op (.conv .i32) [f] λh=>.AQ 235 [h] λj=>.AJ j (.ib [f,.int .u8 65] λk=>.ia [k,.int .u8 97] λm=>.ea 1 [a,g c 0] λn=>.store 1 n m (.ia [g c 0,I 1] λo=>.rn [o])) (.ia [g c 0,I 1] λs=>.rn [s])) (.rx 0 [g c 0])) (lx 0 (λu=>.VR a λw=>.op .Zo [w] λy=>.rr [y]) λu=>.rr [S []])
def yT:FW cx 184 aD6:=λ_=>by kernel_rfl
def aD7(p q:Aa):IT:=
 .ln [p] λa=>.loop 2 [I 0,I 0] (λb=>.il [g b 1,a] λc=>.AJ c (.ea 1 [p,g b 1] λd=>.ld d λe=>.El q [e] λf=>.AJ f (.rr [g b 1,g b 1]) (.ia [g b 1,I 1] λh=>.rn [g b 0,h])) (.rx 0 [g b 0,g b 1])) (lx 0 (λj=>.rr [I (-1)]) λj=>.rr [g j 0])
def yU:Ff cx 185 aD7:=λ_ _=>by kernel_rfl
def aD8(p q:Aa):IT:=
 .call 236 [p,q] λa=>.ih [a,I 0] λb=>.rr [b]
def yV:Ff cx 186 aD8:=λ_ _=>by kernel_rfl
def aD9(p:Aa):IT:=
 .call 237 [p] λa=>.rr [a]
def yW:FW cx 187 aD9:=λ_=>by kernel_rfl
def Ŝ(p q r u:Aa):IT:=
 .cells 12 r λa=>.call 96 [p,I 0] λb=>.op (.ext 0) [b] λc=>.op (.ext 1) [b] λd=>.El q [Gf a,u,c] λe=>.cells 4 e λf=>.iq [g f 0,I 0] λh=>.AJ h (.call 99 [p,g f 0,c,d] λ_=>.fa p 2 λ_ j=>.call 118 [j,a4 f] λ_=>.rr [g f 0]) (.rr [g f 0])
def gD:Tq4 cx 188 Ŝ:=λ_ _ _ _=>by kernel_rfl
def ŝ(p q r u:Aa):IT:=
 .cells 12 q λa=>.Gp 200001 (.call 31 [p] λb=>.nt [b] λc=>.AJ c (.rn [tt]) (.il [r,I 0] λd=>.AJ d (.rn [tt]) (.ig [r,I 7] λe=>.rn [e]))) (nx (λf=>.AJ (g f 0) (.op (.CT [I 0,I 0,S [],ff] []) [] λh=>.cells 4 h λj=>.rr [a4 j]) (.call 238 [r,g a 8] λk=>.ie [r,I 2] λm=>.Gp 100032 (.AJ m (.AQ 239 [g a 1] λn=>.rn [n]) (.rn [g a 1])) (nx (λo=>.BZ p 0 λ_ s w=>.call 241 [p,u] λy=>.ld s λz=>.same w z (.call 240 [w,y,r,g o 0,k] λa0=>.op (.ext 0) [a0] λa1=>.op (.ext 1) [a0] λa2=>.iq [a2,I 0] λa5=>.AJ a5 (.op (.CT [I 0,I 0,S [],ff] []) [] λa7=>.cells 4 a7 λa8=>.rr [a4 a8]) (.call 242 [r,g o 0,k] λb0=>.op (.CT [I 0,I 0,S [],ff] [(0,1),(1,1),(2,1),(3,1)]) [a1,r,g o 0,b0] λb1=>.cells 4 b1 λb2=>.rr [a4 b2]))) λo=>.rr [.agg [I 0,I 0,S [],ff]]))) λf=>.rr [.agg [I 0,I 0,S [],ff]])
def gE:Tq4 cx 189 ŝ:=λ_ _ _ _=>by kernel_rfl
def Ş(p q:Aa):IT:=
 .op (.conv .u32) [q] λa=>.ik [a,.int .u32 2047] λb=>.AJ b (.op (.int .shr) [q,.int .u64 6] λc=>.op (.conv .u8) [c] λd=>.op (.int .or) [.int .u8 192,d] λe=>.op (.conv .u8) [q] λf=>.op (.int .and) [f,.int .u8 63] λh=>.op (.int .or) [.int .u8 128,h] λj=>.op (.Cl 1) [e,j] λk=>.F8 1 1 p k λm=>.rr [m]) (.il [a,.int .u32 55296] λn=>.AJ n (.op (.int .shr) [q,.int .u64 12] λo=>.op (.conv .u8) [o] λs=>.op (.int .or) [.int .u8 224,s] λu=>.op (.int .shr) [q,.int .u64 6] λw=>.op (.conv .u8) [w] λy=>.op (.int .and) [y,.int .u8 63] λz=>.op (.int .or) [.int .u8 128,z] λa0=>.op (.conv .u8) [q] λa1=>.op (.int .and) [a1,.int .u8 63] λa2=>.op (.int .or) [.int .u8 128,a2] λa5=>.op (.Cl 1) [u,a0,a5] λa7=>.F8 1 1 p a7 λa8=>.rr [a8]) (.il [.int .u32 57343,a] λb0=>.AJ b0 (.ik [a,.int .u32 65535] λb1=>.AJ b1 (.op (.int .shr) [q,.int .u64 12] λb2=>.op (.conv .u8) [b2] λb3=>.op (.int .or) [.int .u8 224,b3] λb4=>.op (.int .shr) [q,.int .u64 6] λb5=>.op (.conv .u8) [b5] λb6=>.op (.int .and) [b6,.int .u8 63] λb7=>.op (.int .or) [.int .u8 128,b7] λb8=>.op (.conv .u8) [q] λb9=>.op (.int .and) [b9,.int .u8 63] λc0=>.op (.int .or) [.int .u8 128,c0] λc1=>.op (.Cl 1) [b4,b8,c1] λc2=>.F8 1 1 p c2 λc3=>.rr [c3]) (.ig [a,.int .u32 65535] λc4=>.AJ c4 (.ik [a,.int .u32 1114111] λc5=>.AJ c5 (.op (.int .shr) [q,.int .u64 18] λc6=>.op (.conv .u8) [c6] λc7=>.op (.int .or) [.int .u8 240,c7] λc8=>.op (.int .shr) [q,.int .u64 12] λc9=>.op (.conv .u8) [c9] λd0=>.op (.int .and) [d0,.int .u8 63] λd1=>.op (.int .or) [.int .u8 128,d1] λd2=>.op (.int .shr) [q,.int .u64 6] λd3=>.op (.conv .u8) [d3] λd4=>.op (.int .and) [d4,.int .u8 63] λd5=>.op (.int .or) [.int .u8 128,d5] λd6=>.op (.conv .u8) [q] λd7=>.op (.int .and) [d7,.int .u8 63] λd8=>.op (.int .or) [.int .u8 128,d8] λd9=>.op (.Cl 1) [c8,d2,d6,d9] λe0=>.F8 1 1 p e0 λe1=>.rr [e1]) (.op (.Cl 1) [.int .u8 239,.int .u8 191,.int .u8 189] λe2=>.F8 1 1 p e2 λe3=>.rr [e3])) (.op (.Cl 1) [.int .u8 239,.int .u8 191,.int .u8 189] λe4=>.F8 1 1 p e4 λe5=>.rr [e5]))) (.ig [a,.int .u32 65535] λe6=>.AJ e6 (.ik [a,.int .u32 1114111] λe7=>.AJ e7 (.op (.int .shr) [q,.int .u64 18] λe8=>.op (.conv .u8) [e8] λe9=>.op (.int .or) [.int .u8 240,e9] λf0=>.op (.int .shr) [q,.int .u64 12] λf1=>.op (.conv .u8) [f1] λf2=>.op (.int .and) [f2,.int .u8 63] λf3=>.op (.int .or) [.int .u8 128,f3] λf4=>.op (.int .shr) [q,.int .u64 6] λf5=>.op (.conv .u8) [f5] λf6=>.op (.int .and) [f6,.int .u8 63] λf7=>.op (.int .or) [.int .u8 128,f7] λf8=>.op (.conv .u8) [q] λf9=>.op (.int .and) [f9,.int .u8 63] λh0=>.op (.int .or) [.int .u8 128,h0] λh1=>.op (.Cl 1) [f0,f4,f8,h1] λh2=>.F8 1 1 p h2 λh3=>.rr [h3]) (.op (.Cl 1) [.int .u8 239,.int .u8 191,.int .u8 189] λh4=>.F8 1 1 p h4 λh5=>.rr [h5])) (.op (.Cl 1) [.int .u8 239,.int .u8 191,.int .u8 189] λh6=>.F8 1 1 p h6 λh7=>.rr [h7]))))
def gF:Ff cx 190 Ş:=λ_ _=>by kernel_rfl
def aEa(p q:Aa):IT:=
 .call 10 [p] λa=>.ib [a,I 1] λb=>.loop 2 [I 0,b] (λc=>.ih [g c 1,I 0] λd=>.AJ d (.BZ p 0 λ_ _ e=>.ea 4 [e,g c 1] λf=>.load (some 4) f λh=>.El q [h] λj=>.AJ j (.rr [g c 1,g c 1]) (.ib [g c 1,I 1] λk=>.rn [g c 0,k])) (.rx 0 [g c 0,g c 1])) (lx 0 (λm=>.rr [I (-1)]) λm=>.rr [g m 0])
def yX:Ff cx 191 aEa:=λ_ _=>by kernel_rfl
def aEb(p q:Aa):IT:=
 .cells 4 p λa=>.ld q λb=>.op (.Cl 1) [b] λc=>.call 162 [a4 a,c] λd=>.rr [d]
def yY:Ff cx 192 aEb:=λ_ _=>by kernel_rfl
def aEc(p:Aa):IT:=
 .cells 4 p λa=>.iq [g a 1,I 1] λb=>.AJ b (.rr [tt]) (.AQ 194 [g a 2] λc=>.nt [c] λd=>.rr [d])
def yZ:FW cx 193 aEc:=λ_=>by kernel_rfl
def aEd(p:Aa):IT:=
 .se [p,S aXl] λa=>.AJ a (.rr [tt]) (.se [p,S aXu] λb=>.AJ b (.rr [tt]) (.se [p,S aXK] λc=>.AJ c (.rr [tt]) (.se [p,S [116,100]] λd=>.AJ d (.rr [tt]) (.se [p,S aXH] λe=>.AJ e (.rr [tt]) (.se [p,S [116,104]] λf=>.AJ f (.rr [tt]) (.se [p,S aXL] λh=>.AJ h (.rr [tt]) (.se [p,S [116,114]] λj=>.AJ j (.rr [tt]) (.AQ 216 [p] λk=>.rr [k]))))))))
def zA:FW cx 194 aEd:=λ_=>by kernel_rfl
def aEe(p q r:Aa):IT:=
 .cells 4 q λa=>.op (.PQ 4 false false true) [p,r] λb=>.op (.append 4 40) [.slnil,b] λc=>.op (.Cl 4) [a4 a] λd=>.op (.append 4 40) [c,d] λe=>.op (.PQ 4 false true false) [p,r] λf=>.op (.append 4 40) [e,f] λh=>.rr [h]
def zB:RL cx 195 aEe:=λ_ _ _=>by kernel_rfl
def aEf(p q:Aa):IT:=
 .op (.PQ 4 false false true) [p,q] λa=>.op (.append 4 40) [.slnil,a] λb=>.ia [q,I 1] λc=>.op (.PQ 4 false true false) [p,c] λd=>.op (.append 4 40) [b,d] λe=>.rr [e]
def zC:Ff cx 196 aEf:=λ_ _=>by kernel_rfl
def aEg(p q:Aa):IT:=
 .ld q λa=>.El a [p] λ_=>.rr [ff]
def zD:Ff cx 197 aEg:=λ_ _=>by kernel_rfl
def ş(p:Aa):IT:=
 .call 31 [p] λa=>.AJ a (.fa p 2 λ_ b=>.op (.Cl 1) [S [112]] λc=>.call 213 [b,I 3,c] λd=>.AJ d (.fa p 2 λ_ e=>.call 156 [e,S [112]] λ_=>.fa p 2 λ_ f=>.op (.Cl 1) [S [112]] λh=>.call 85 [f,h] λ_=>.rr [.tuple []]) (.rr [.tuple []])) (.rr [.tuple []])
def gG:FW cx 198 ş:=λ_=>by kernel_rfl
def aEh(p:Aa):IT:=
 .lt [p] λa=>.ie [a,I 2] λb=>.AJ b (.op .SN [p,I 0] λc=>.ie [c,.int .u8 104] λd=>.AJ d (.op .SN [p,I 1] λe=>.ih [e,.int .u8 49] λf=>.AJ f (.op .SN [p,I 1] λh=>.ik [h,.int .u8 54] λj=>.rr [j]) (.rr [ff])) (.rr [ff])) (.rr [ff])
def zE:FW cx 199 aEh:=λ_=>by kernel_rfl
def aEi(p q:Aa):IT:=
 .cells 12 q λa=>.call 67 [p,Gf a] λb=>.iq [b,I 0] λc=>.AJ c (.fa p 3 λ_ d=>.op (.CT [I 0,S [],.slnil] [(0,1),(1,1),(2,1)]) [b,g a 1,g a 8] λe=>.call 243 [d,e] λ_=>.rr [b]) (.rr [b])
def zF:Ff cx 200 aEi:=λ_ _=>by kernel_rfl
def aEj(p:Aa):IT:=
 .cells 12 p λa=>.ln [g a 8] λb=>.loop 2 [ff,I 0] (λc=>.il [g c 1,b] λd=>.AJ d (.ea 3 [g a 8,g c 1] λe=>.load (some 3) e λf=>.cells 3 f λh=>.se [g h 1,S aX5] λj=>.AJ j (.AQ 106 [g h 2,S aXT] λk=>.rr [k,g c 1]) (.ia [g c 1,I 1] λm=>.rn [g c 0,m])) (.rx 0 [g c 0,g c 1])) (lx 0 (λn=>.rr [ff]) λn=>.rr [g n 0])
def zG:FW cx 201 aEj:=λ_=>by kernel_rfl
def aEk(p q:Aa):IT:=
 .BZ p 0 λ_ _ a=>.fa a 2 λ_ b=>.op (.Cl 1) [q] λc=>.call 213 [b,I 1,c] λd=>.rr [d]
def zH:Ff cx 202 aEk:=λ_ _=>by kernel_rfl
def aEl(p q r:Aa):IT:=
 .BZ p 0 λ_ _ a=>.fa a 2 λ_ b=>.call 156 [b,r] λ_=>.BZ p 0 λ_ _ c=>.fa c 2 λ_ d=>.op (.Cl 1) [q] λe=>.call 85 [d,e] λ_=>.rr [.tuple []]
def zI:RL cx 203 aEl:=λ_ _ _=>by kernel_rfl
def aEm(p q:Aa):IT:=
 .cells 4 p λa=>.ie [g a 1,I 1] λb=>.AJ b (.se [g a 2,q] λc=>.rr [c]) (.rr [ff])
def zJ:Ff cx 204 aEm:=λ_ _=>by kernel_rfl
def Š(p q r:Aa):IT:=
 .cells 12 q λa=>.call 31 [p] λb=>.nt [b] λc=>.AJ c (.rr [.tuple []]) (.call 97 [p,r] λd=>.op (.part 0 none) [d] λe=>.iq [e,I 4] λf=>.AJ f (.rr [.tuple []]) (.call 97 [p,r] λh=>.op (.part 6 none) [h] λj=>.ln [g a 8] λk=>.loop 4 [j,I 0] (λm=>.il [g m 1,k] λn=>.AJ n (.ea 3 [g a 8,g m 1] λo=>.load (some 3) o λs=>.cells 3 s λu=>.call 244 [g m 0,.func (.func 245) [] [.B4 [g u 0,g u 1,g u 2]]] λw=>.nt [w] λy=>.AJ y (.fl (.B4 [g u 0,g u 1,g u 2]) 1 λ_ z=>.fl (.B4 [g u 0,g u 1,g u 2]) 2 λ_ a0=>.op (.CT [I 0,S [],S []] [(1,1),(2,1)]) [z,a0] λa1=>.op (.Cl 3) [a1] λa2=>.F8 3 40 (g m 0) a2 λa5=>.ia [g m 1,I 1] λa7=>.rn [a5,a7]) (.ia [g m 1,I 1] λa8=>.rn [g m 0,a8])) (.rx 0 [g m 0,g m 1])) (lx 0 (λb0=>.BZ p 0 λ_ _ b1=>.call 246 [b1,r,g b0 0] λ_=>.rr [.tuple []]) λb0=>.rr [.tuple []])))
def gH:RL cx 205 Š:=λ_ _ _=>by kernel_rfl
end Go.Am
