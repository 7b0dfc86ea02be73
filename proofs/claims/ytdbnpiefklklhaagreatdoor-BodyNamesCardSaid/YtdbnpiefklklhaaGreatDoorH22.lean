/- Lemmas -/
import Derived.Test.YtdbnpiefklklhaaGreatDoorH9
import Derived.Test.YtdbnpiefklklhaaGreatDoorH18
set_option linter.all false
namespace Go.Am
open Go
def aAV(p:Aa):IT:=
 .BP p 0 λ_ _ a=>.ca 41 [a] λ_=>.BP p 0 λ_ _ b=>.fa p 1 λ_ c=>.load (some 12) c λd=>.ca 42 [b,d] λ_=>.BP p 0 λ_ _ e=>.fa e 3 λ_ f=>.ca 62 [f] λ_=>.BP p 0 λ_ _ h=>.fa h 14 λ_ j=>.store 1 j ff (.rr [.tuple []])
def tP:FC cx 104 aAV:=λ_=>AA
def Yv(p:Aa):IT:=
 .BP p 0 λ_ _ a=>.BP a 14 λ_ _ b=>.fa p 1 λ_ c=>.fl c 1 λ_ d=>.se [d,S [104,114]] λe=>.AD e (.BP p 0 λ_ _ f=>.ca 57 [f] λ_=>.BP p 0 λ_ _ h=>.fa p 1 λ_ j=>.load (some 12) j λk=>.ca 78 [h,k] λ_=>.BP p 0 λ_ _ m=>.fa m 14 λ_ n=>.store 1 n ff (.rr [.tuple []])) (.se [d,S aU9] λo=>.AD o (.BP p 0 λ_ _ s=>.fa p 1 λ_ u=>.load (some 12) u λw=>.ca 78 [s,w] λ_=>.BP p 0 λ_ _ y=>.fa y 14 λ_ z=>.store 1 z b (.rr [.tuple []])) (.se [d,S aUR] λa0=>.AD a0 (.BP p 0 λ_ _ a1=>.fa p 1 λ_ a2=>.load (some 12) a2 λa5=>.ca 78 [a1,a5] λ_=>.BP p 0 λ_ _ a7=>.fa a7 14 λ_ a8=>.store 1 a8 b (.rr [.tuple []])) (.se [d,S aVa] λb0=>.AD b0 (.BP p 0 λ_ _ b1=>.fa p 1 λ_ b2=>.load (some 12) b2 λb3=>.ca 78 [b1,b3] λ_=>.BP p 0 λ_ _ b4=>.fa b4 14 λ_ b5=>.store 1 b5 b (.rr [.tuple []])) (.se [d,S aUu] λb6=>.AD b6 (.BP p 0 λ_ _ b7=>.ca 41 [b7] λ_=>.AD b (.fa p 1 λ_ b8=>.load (some 12) b8 λb9=>.ca 195 [b9] λc0=>.BP p 0 λ_ _ c1=>.fa p 1 λ_ c2=>.load (some 12) c2 λc3=>.ca 78 [c1,c3] λ_=>.BP p 0 λ_ _ c4=>.fa c4 14 λ_ c5=>.store 1 c5 c0 (.rr [.tuple []])) (.BP p 0 λ_ _ c6=>.fa p 1 λ_ c7=>.load (some 12) c7 λc8=>.ca 78 [c6,c8] λ_=>.BP p 0 λ_ _ c9=>.fa c9 14 λ_ d0=>.store 1 d0 ff (.rr [.tuple []]))) (.se [d,S aTD] λd1=>.AD d1 (.fa p 1 λ_ d2=>.op (.Fb 1) [d2] λd3=>.store 1 d3 (S aTG) (.BP p 0 λ_ _ d4=>.ca 41 [d4] λ_=>.BP p 0 λ_ _ d5=>.fa p 1 λ_ d6=>.load (some 12) d6 λd7=>.ca 78 [d5,d7] λ_=>.BP p 0 λ_ _ d8=>.fa d8 14 λ_ d9=>.store 1 d9 ff (.rr [.tuple []]))) (.BP p 0 λ_ _ e0=>.ca 41 [e0] λ_=>.BP p 0 λ_ _ e1=>.fa p 1 λ_ e2=>.load (some 12) e2 λe3=>.ca 78 [e1,e3] λ_=>.BP p 0 λ_ _ e4=>.fa e4 14 λ_ e5=>.store 1 e5 ff (.rr [.tuple []])))))))
def Ls:FC cx 105 Yv:=λ_=>AA
def aAW(p:Aa):IT:=
 .rr [ff]
def tQ:FC cx 106 aAW:=λ_=>AA
def pD(p:Aa):IT:=
 .fa p 1 λ_ a=>.fl a 1 λ_ b=>.se [b,S aUw] λc=>.AD c (.ca 100 [p] λ_=>.BP p 0 λ_ _ d=>.fa d 18 λ_ e=>.store 1 e (I 5) (.rr [.tuple []])) (.se [b,S aUA] λf=>.AD f (.BP p 0 λ_ _ h=>.fa p 1 λ_ j=>.load (some 12) j λk=>.ca 56 [h,k,I 2] λ_=>.BP p 0 λ_ _ m=>.fa m 17 λ_ n=>.store 1 n tt (.BP p 0 λ_ _ o=>.fa o 14 λ_ s=>.store 1 s ff (.rr [.tuple []]))) (.se [b,S aVr] λu=>.AD u (.BP p 0 λ_ _ w=>.ca 57 [w] λ_=>.BP p 0 λ_ _ y=>.ca 41 [y] λ_=>.BP p 0 λ_ _ z=>.fa z 14 λ_ a0=>.store 1 a0 ff (.BP p 0 λ_ _ a1=>.fa p 1 λ_ a2=>.load (some 12) a2 λa5=>.ca 56 [a1,a5,I 3] λ_=>.rr [.tuple []])) (.se [b,S aUS] λa7=>.AD a7 (.BP p 0 λ_ _ a8=>.fa a8 14 λ_ b0=>.store 1 b0 ff (.BP p 0 λ_ _ b1=>.fa p 1 λ_ b2=>.load (some 12) b2 λb3=>.ca 56 [b1,b3,I 3] λ_=>.rr [.tuple []])) (.BP p 0 λ_ _ b4=>.fa p 1 λ_ b5=>.load (some 12) b5 λb6=>.ca 56 [b4,b6,I 3] λ_=>.rr [.tuple []]))))
def P9:FC cx 107 pD:=λ_=>AA
def cz(p:Aa):IT:=
 .ca 196 [p,S aUI] λa=>.AD a (.fa p 1 λ_ b=>.fl b 1 λ_ c=>.se [c,S [114,112]] λd=>.AD d (.BP p 0 λ_ _ e=>.fa e 2 λ_ f=>.ca 134 [f,S aUP] λ_=>.BP p 0 λ_ _ h=>.fa p 1 λ_ j=>.load (some 12) j λk=>.ca 42 [h,k] λ_=>.rr [.tuple []]) (.fa p 1 λ_ m=>.fl m 1 λ_ n=>.se [n,S [114,116]] λo=>.AD o (.BP p 0 λ_ _ s=>.fa s 2 λ_ u=>.ca 134 [u,S aUP] λ_=>.BP p 0 λ_ _ w=>.fa p 1 λ_ y=>.load (some 12) y λz=>.ca 42 [w,z] λ_=>.rr [.tuple []]) (.BP p 0 λ_ _ a0=>.fa a0 2 λ_ a1=>.ca 134 [a1,S []] λ_=>.BP p 0 λ_ _ a2=>.fa p 1 λ_ a5=>.load (some 12) a5 λa7=>.ca 42 [a2,a7] λ_=>.rr [.tuple []]))) (.BP p 0 λ_ _ a8=>.fa p 1 λ_ b0=>.load (some 12) b0 λb1=>.ca 42 [a8,b1] λ_=>.rr [.tuple []])
def Ss:FC cx 108 cz:=λ_=>AA
def t109(p:Aa):IT:=
 .fa p 1 λ_ a=>.fl a 1 λ_ b=>.se [b,S aU4] λc=>.AD c (.BP p 0 λ_ _ d=>.ca 41 [d] λ_=>.BP p 0 λ_ _ e=>.fa p 1 λ_ f=>.load (some 12) f λh=>.ca 53 [e,h,I 3] λ_=>.fa p 1 λ_ j=>.fl j 9 λ_ k=>.AD k (.BP p 0 λ_ _ m=>.fa m 2 λ_ n=>.ca 64 [n] λ_=>.rr [.tuple []]) (.rr [.tuple []])) (.BP p 0 λ_ _ o=>.ca 41 [o] λ_=>.BP p 0 λ_ _ s=>.fa p 1 λ_ u=>.load (some 12) u λw=>.ca 53 [s,w,I 2] λ_=>.fa p 1 λ_ y=>.fl y 9 λ_ z=>.AD z (.BP p 0 λ_ _ a0=>.fa a0 2 λ_ a1=>.ca 64 [a1] λ_=>.rr [.tuple []]) (.rr [.tuple []]))
def Su:FC cx 109 t109:=λ_=>AA
def aAX(p:Aa):IT:=
 .BP p 0 λ_ _ a=>.fa a 14 λ_ b=>.store 1 b ff (.fa p 1 λ_ c=>.fl c 1 λ_ d=>.op (.str .neq) [d,S [108,105]] λe=>.FZ 100016 (.AD e (.rn [S aVk]) (.rn [S [108,105]])) (nx (λf=>.BP p 0 λ_ _ h=>.fa h 2 λ_ j=>.ca 131 [j] λk=>.ib [k,I 1] λm=>.loop 5 [m] (λn=>.ih [g n 0,I 0] λo=>.AD o (.BP p 0 λ_ _ s=>.fa s 2 λ_ u=>.ca 132 [u,g n 0] λw=>.cells 4 w λy=>.FZ 200008 (.ie [g y 1,I 1] λz=>.AD z (.Bn 185 [g y 2,g f 0] λa0=>.rn [a0]) (.rn [ff])) (λx a1=>match x with| .normal=>.AD (g a1 0) (.ca 197 [p,g y 2,g y 2] λ_=>.rx 0 [g n 0]) (.FZ 200010 (.Bn 136 [g y 1,g y 2] λa2=>.AD a2 (.ie [g y 1,I 1] λa5=>.AD a5 (.Bn 185 [g y 2,S aUO] λa7=>.nt [a7] λa8=>.rn [a8]) (.nt [ff] λb0=>.rn [b0])) (.rn [ff])) (λx b1=>match x with| .normal=>.AD (g b1 0) (.rx 0 [g n 0]) (.ib [g n 0,I 1] λb2=>.rn [b2])| .exit i=>if i=2 then .ib [g n 0,I 1] λb3=>.rn [b3] else if i=1 then .ib [g n 0,I 1] λb4=>.rn [b4] else .ret (.exit i) [g n 0]| .ret=>.rr [g n 0]))| .exit i=>if i=2 then .ib [g n 0,I 1] λb5=>.rn [b5] else if i=1 then .ib [g n 0,I 1] λb6=>.rn [b6] else .ret (.exit i) [g n 0]| .ret=>.rr [g n 0])) (.rx 0 [g n 0])) (lx 0 (λb7=>.ca 100 [p] λ_=>.rr [.tuple []]) λb7=>.rr [.tuple []])) λf=>.rr [.tuple []]))
def tR:FC cx 110 aAX:=λ_=>AA
def N_(p:Aa):IT:=
 .BP p 0 λ_ _ a=>.ca 155 [a] λb=>.ca 198 [b,S aTT] λc=>.AD c (.BP p 0 λ_ _ d=>.fa d 2 λ_ e=>.ca 64 [e] λ_=>.BP p 0 λ_ _ f=>.ca 41 [f] λ_=>.BP p 0 λ_ _ h=>.fa p 1 λ_ j=>.load (some 12) j λk=>.ca 42 [h,k] λ_=>.rr [.tuple []]) (.BP p 0 λ_ _ m=>.ca 41 [m] λ_=>.BP p 0 λ_ _ n=>.fa p 1 λ_ o=>.load (some 12) o λs=>.ca 42 [n,s] λ_=>.rr [.tuple []])
def cG:FC cx 111 N_:=λ_=>AA
def pE(p:Aa):IT:=
 .BP p 0 λ_ _ a=>.ca 83 [a] λb=>.AD b (.rr [.tuple []]) (.BP p 0 λ_ _ c=>.fa c 2 λ_ d=>.ca 131 [d] λe=>.ie [e,I 0] λf=>.AD f (.rr [.tuple []]) (.fa p 1 λ_ h=>.fl h 1 λ_ j=>.se [j,S aTA] λk=>.AD k (.BP p 0 λ_ m n=>.fa p 1 λ_ o=>.load (some 12) o λs=>.BP p 0 λ_ _ u=>.fa u 2 λ_ w=>.ca 132 [w,I 0] λy=>.load (some 12) o λz=>.same s z (.ld m λa0=>.same n a0 (.op (.part 0 none) [y] λa1=>.ca 60 [n,s,a1] λ_=>.rr [.tuple []]))) (.ca 199 [p] λa2=>.op (.ext 0) [a2] λa5=>.op (.ext 1) [a2] λa7=>.AD a7 (.BP p 0 λ_ _ a8=>.fa a8 14 λ_ b0=>.store 1 b0 ff (.BP p 0 λ_ _ b1=>.fa p 1 λ_ b2=>.load (some 12) b2 λb3=>.ca 60 [b1,b3,a5] λ_=>.rr [.tuple []])) (.rr [.tuple []]))))
def Qa:FC cx 112 pE:=λ_=>AA
def rk(p:Aa):IT:=
 .ca 199 [p] λa=>.op (.ext 0) [a] λb=>.op (.ext 1) [a] λc=>.nt [c] λd=>.AD d (.rr [.tuple []]) (.BP p 0 λ_ _ e=>.BP e 14 λ_ _ f=>.nt [f] λh=>.AD h (.rr [.tuple []]) (.BP p 0 λ_ _ j=>.BP j 0 λ_ _ k=>.ca 200 [k,b] λ_=>.loop 3 [] (λ_=>.BP p 0 λ_ _ m=>.fa m 2 λ_ n=>.ca 131 [n] λo=>.ig [o,I 1] λs=>.AD s (.BP p 0 λ_ _ u=>.fa u 2 λ_ w=>.ca 64 [w] λ_=>.rn []) (.rx 0 [])) (lx 0 (λy=>.BP p 0 λ_ _ z=>.fa p 1 λ_ a0=>.load (some 12) a0 λa1=>.ca 42 [z,a1] λ_=>.BP p 0 λ_ _ a2=>.fa a2 4 λ_ a5=>.store 1 a5 (I 20) (.rr [.tuple []])) λy=>.rr [.tuple []])))
def Vr:FC cx 113 rk:=λ_=>AA
def c_(p:Aa):IT:=
 .BP p 0 λ_ _ a=>.ca 83 [a] λb=>.BP p 0 λ_ _ c=>.BP c 8 λ_ _ d=>.iq [d,I 0] λe=>.AD e (.nt [b] λf=>.AD f (.rr [.tuple []]) (.BP p 0 λ_ _ h=>.ca 57 [h] λ_=>.BP p 0 λ_ _ j=>.fa p 1 λ_ k=>.load (some 12) k λm=>.ca 42 [j,m] λn=>.nt [b] λo=>.AD o (.BP p 0 λ_ _ s=>.fa s 8 λ_ u=>.store 1 u n (.rr [.tuple []])) (.rr [.tuple []]))) (.BP p 0 λ_ _ w=>.ca 57 [w] λ_=>.BP p 0 λ_ _ y=>.fa p 1 λ_ z=>.load (some 12) z λa0=>.ca 42 [y,a0] λa1=>.nt [b] λa2=>.AD a2 (.BP p 0 λ_ _ a5=>.fa a5 8 λ_ a7=>.store 1 a7 a1 (.rr [.tuple []])) (.rr [.tuple []]))
def Sv:FC cx 114 c_:=λ_=>AA
def O_(p:Aa):IT:=
 .ca 196 [p,S aTC] λa=>.AD a (.ca 197 [p,S aTC,S []] λ_=>.BP p 0 λ_ _ b=>.ca 41 [b] λ_=>.BP p 0 λ_ _ c=>.fa p 1 λ_ d=>.load (some 12) d λe=>.ca 42 [c,e] λ_=>.BP p 0 λ_ _ f=>.fa f 14 λ_ h=>.store 1 h ff (.rr [.tuple []])) (.BP p 0 λ_ _ j=>.ca 41 [j] λ_=>.BP p 0 λ_ _ k=>.fa p 1 λ_ m=>.load (some 12) m λn=>.ca 42 [k,n] λ_=>.BP p 0 λ_ _ o=>.fa o 14 λ_ s=>.store 1 s ff (.rr [.tuple []]))
def cH:FC cx 115 O_:=λ_=>AA
def P_(p:Aa):IT:=
 .BP p 0 λ_ _ a=>.fa a 3 λ_ b=>.ca 201 [b,S [97]] λc=>.ih [c,I 0] λd=>.AD d (.BP p 0 λ_ _ e=>.fa e 3 λ_ f=>.fl f 0 λ_ h=>.ea 3 [h,c] λj=>.fl j 0 λ_ k=>.BP p 0 λ_ _ m=>.ca 58 [m,S [97]] λ_=>.BP p 0 λ_ _ n=>.fa n 3 λ_ o=>.ca 202 [o,k] λ_=>.BP p 0 λ_ _ s=>.fa s 2 λ_ u=>.ca 186 [u,k] λ_=>.ca 103 [p] λ_=>.rr [.tuple []]) (.ca 103 [p] λ_=>.rr [.tuple []])
def cI:FC cx 116 P_:=λ_=>AA
def Q_(p:Aa):IT:=
 .BP p 0 λ_ _ a=>.ca 41 [a] λ_=>.ca 196 [p,S aTZ] λb=>.AD b (.BP p 0 λ_ _ c=>.ca 58 [c,S aTZ] λ_=>.BP p 0 λ_ _ d=>.ca 41 [d] λ_=>.BP p 0 λ_ _ e=>.fa p 1 λ_ f=>.load (some 12) f λh=>.ca 54 [e,h] λ_=>.rr [.tuple []]) (.BP p 0 λ_ _ j=>.fa p 1 λ_ k=>.load (some 12) k λm=>.ca 54 [j,m] λ_=>.rr [.tuple []])
def cJ:FC cx 117 Q_:=λ_=>AA
def R_(p:Aa):IT:=
 .BP p 0 λ_ _ a=>.BP a 0 λ_ _ b=>.BP p 0 λ_ _ c=>.BP c 1 λ_ _ d=>.ca 147 [b,d] λe=>.op (.ext 0) [e] λf=>.op (.ext 1) [e] λ_=>.cells 13 f λh=>.nt [g h 10] λj=>.AD j (.BP p 0 λ_ _ k=>.ca 57 [k] λ_=>.BP p 0 λ_ _ m=>.fa p 1 λ_ n=>.load (some 12) n λo=>.ca 42 [m,o] λ_=>.BP p 0 λ_ _ s=>.fa s 14 λ_ u=>.store 1 u ff (.BP p 0 λ_ _ w=>.fa w 4 λ_ y=>.store 1 y (I 9) (.rr [.tuple []]))) (.BP p 0 λ_ _ z=>.fa p 1 λ_ a0=>.load (some 12) a0 λa1=>.ca 42 [z,a1] λ_=>.BP p 0 λ_ _ a2=>.fa a2 14 λ_ a5=>.store 1 a5 ff (.BP p 0 λ_ _ a7=>.fa a7 4 λ_ a8=>.store 1 a8 (I 9) (.rr [.tuple []])))
def cK:FC cx 118 R_:=λ_=>AA
def jK(p:Aa):IT:=
 .BP p 0 λ_ _ a=>.ca 41 [a] λ_=>.BP p 0 λ_ _ b=>.fa p 1 λ_ c=>.load (some 12) c λd=>.ca 42 [b,d] λ_=>.BP p 0 λ_ _ e=>.fa e 14 λ_ f=>.store 1 f ff (.BP p 0 λ_ _ h=>.BP h 4 λ_ _ j=>.ie [j,I 9] λk=>.AD k (.BP p 0 λ_ _ m=>.fa m 4 λ_ n=>.store 1 n (I 17) (.rr [.tuple []])) (.ie [j,I 11] λo=>.AD o (.BP p 0 λ_ _ s=>.fa s 4 λ_ u=>.store 1 u (I 17) (.rr [.tuple []])) (.ie [j,I 13] λw=>.AD w (.BP p 0 λ_ _ y=>.fa y 4 λ_ z=>.store 1 z (I 17) (.rr [.tuple []])) (.ie [j,I 14] λa0=>.AD a0 (.BP p 0 λ_ _ a1=>.fa a1 4 λ_ a2=>.store 1 a2 (I 17) (.rr [.tuple []])) (.ie [j,I 15] λa5=>.AD a5 (.BP p 0 λ_ _ a7=>.fa a7 4 λ_ a8=>.store 1 a8 (I 17) (.rr [.tuple []])) (.BP p 0 λ_ _ b0=>.fa b0 4 λ_ b1=>.store 1 b1 (I 16) (.rr [.tuple []])))))))
def N0:FC cx 119 jK:=λ_=>AA
def aAY(p q:Aa):IT:=
 .cells 1 q λa=>.ca 203 [p,.func (.func 204) [] [.BR [g a 0]]] λb=>.rr [b]
def tS:EB cx 120 aAY:=λ_ _=>AA
def rl(p:Aa):IT:=
 .op (.Ga false .sl) [p,.slnil] λa=>.AD a (.rr [.slnil]) (.op (.Ch 3) [] λb=>.Je 3 48 b p λc=>.rr [c])
def Vs:FC cx 121 rl:=λ_=>AA
def aAZ(p:Aa):IT:=
 .cells 3 p λa=>.op (.B6 [I 0,S [],ff,S [],ff,S [],ff,ff,.slnil,ff,S [],.int .i32 0] [(0,1),(1,1),(8,1)]) [I 2,g a 1,g a 2] λb=>.cells 12 b λc=>.rr [EY c]
def tT:FC cx 122 aAZ:=λ_=>AA
def S_(p:Aa):IT:=
 .ca 196 [p,S aTF] λa=>.nt [a] λb=>.AD b (.rr [ff]) (.BP p 0 λ_ _ c=>.fa c 4 λ_ d=>.store 1 d (I 19) (.fa p 1 λ_ e=>.fl e 1 λ_ f=>.se [f,S aTA] λh=>.rr [h]))
def cL:FC cx 123 S_:=λ_=>AA
def T_(p:Aa):IT:=
 .fa p 1 λ_ a=>.fl a 1 λ_ b=>.ca 196 [p,b] λc=>.AD c (.fa p 1 λ_ d=>.fl d 1 λ_ e=>.ca 197 [p,e,S []] λ_=>.rr [.tuple []]) (.rr [.tuple []])
def cM:FC cx 124 T_:=λ_=>AA
def aA0(p:Aa):IT:=
 .BP p 0 λ_ _ a=>.fa p 1 λ_ b=>.fl b 1 λ_ c=>.ca 58 [a,c] λ_=>.rr [.tuple []]
def tU:FC cx 125 aA0:=λ_=>AA
def U_(p:Aa):IT:=
 .ca 192 [S aTL] λa=>.BP p 0 λ_ _ b=>.fa b 2 λ_ c=>.ca 154 [c,I 1,a] λd=>.AD d (.BP p 0 λ_ _ e=>.fa e 2 λ_ f=>.ca 134 [f,S []] λ_=>.BP p 0 λ_ _ h=>.fa h 2 λ_ j=>.ca 66 [j,a] λ_=>.rr [.tuple []]) (.rr [.tuple []])
def cN:FC cx 126 U_:=λ_=>AA
def t127(p:Aa):IT:=
 .fa p 1 λ_ a=>.fl a 1 λ_ b=>.ca 196 [p,b] λc=>.AD c (.fa p 1 λ_ d=>.fl d 1 λ_ e=>.ca 197 [p,e,S []] λ_=>.BP p 0 λ_ _ f=>.fa f 3 λ_ h=>.ca 65 [h] λ_=>.rr [.tuple []]) (.rr [.tuple []])
def cO:FC cx 127 t127:=λ_=>AA
def jL(p:Aa):IT:=
 .fa p 1 λ_ a=>.fl a 1 λ_ b=>.se [b,S [112]] λc=>.AD c (.BP p 0 λ_ _ d=>.fa d 2 λ_ e=>.op (.Ch 1) [b] λf=>.ca 154 [e,I 3,f] λh=>.nt [h] λj=>.AD j (.op (.str .neq) [b,S [112]] λk=>.AD k (.rr [.tuple []]) (.BP p 0 λ_ m n=>.ca 77 [S [112]] λo=>.ld m λs=>.same n s (.ca 42 [n,o] λ_=>.ca 197 [p,b,b] λ_=>.rr [.tuple []]))) (.ca 197 [p,b,b] λ_=>.rr [.tuple []])) (.se [b,S [108,105]] λu=>.AD u (.BP p 0 λ_ _ w=>.fa w 2 λ_ y=>.op (.Ch 1) [b] λz=>.ca 154 [y,I 2,z] λa0=>.nt [a0] λa1=>.AD a1 (.op (.str .neq) [b,S [112]] λa2=>.AD a2 (.rr [.tuple []]) (.BP p 0 λ_ a5 a7=>.ca 77 [S [112]] λa8=>.ld a5 λb0=>.same a7 b0 (.ca 42 [a7,a8] λ_=>.ca 197 [p,b,b] λ_=>.rr [.tuple []]))) (.ca 197 [p,b,b] λ_=>.rr [.tuple []])) (.BP p 0 λ_ _ b1=>.fa b1 2 λ_ b2=>.op (.Ch 1) [b] λb3=>.ca 154 [b2,I 1,b3] λb4=>.nt [b4] λb5=>.AD b5 (.op (.str .neq) [b,S [112]] λb6=>.AD b6 (.rr [.tuple []]) (.BP p 0 λ_ b7 b8=>.ca 77 [S [112]] λb9=>.ld b7 λc0=>.same b8 c0 (.ca 42 [b8,b9] λ_=>.ca 197 [p,b,b] λ_=>.rr [.tuple []]))) (.ca 197 [p,b,b] λ_=>.rr [.tuple []])))
def N1:FC cx 128 jL:=λ_=>AA
def da(p:Aa):IT:=
 .BP p 0 λ_ _ a=>.ca 83 [a] λb=>.AD b (.ca 124 [p] λ_=>.rr [.tuple []]) (.BP p 0 λ_ _ c=>.BP c 8 λ_ _ d=>.BP p 0 λ_ _ e=>.fa e 8 λ_ f=>.store 1 f i0 (.iq [d,I 0] λh=>.AD h (.BP p 0 λ_ _ j=>.fa j 2 λ_ k=>.ca 205 [k,I 1,d] λm=>.AD m (.BP p 0 λ_ _ n=>.fa n 2 λ_ o=>.ca 134 [o,S []] λ_=>.BP p 0 λ_ _ s=>.fa s 2 λ_ u=>.ca 186 [u,d] λ_=>.rr [.tuple []]) (.rr [.tuple []])) (.rr [.tuple []])))
def Sw:FC cx 129 da:=λ_=>AA
def aA1(p:Aa):IT:=
 .ca 77 [S [98,114]] λa=>.fa p 1 λ_ b=>.store 12 b a (.ca 105 [p] λ_=>.rr [.tuple []])
def tV:FC cx 130 aA1:=λ_=>AA
def aA2(p:Aa):IT:=
 .op (.Qp false) [p,.ptr none] λa=>.AD a (.rr [I 0]) (.BP p 0 λ_ _ b=>.ln [b] λc=>.rr [c])
def tW:FC cx 131 aA2:=λ_=>AA
def aA3(p q:Aa):IT:=
 .il [q,I 0] λa=>.AD a (.op (.B6 [I 0,I 0,S [],ff] []) [] λb=>.cells 4 b λc=>.rr [a4 c]) (.ca 131 [p] λd=>.ih [q,d] λe=>.AD e (.op (.B6 [I 0,I 0,S [],ff] []) [] λf=>.cells 4 f λh=>.rr [a4 h]) (.BP p 0 λ_ _ j=>.ea 4 [j,q] λk=>.load (some 4) k λm=>.cells 4 m λn=>.rr [a4 n]))
def tX:EB cx 132 aA3:=λ_ _=>AA
def aA4(p q:Aa):IT:=
 .cells 4 p λa=>.ie [g a 1,I 1] λb=>.AD b (.ca 206 [q,g a 2] λc=>.rr [c]) (.rr [ff])
def tY:EB cx 133 aA4:=λ_ _=>AA
def aA5(p q:Aa):IT:=
 .cells 1 q λa=>.ca 167 [p,.func (.func 207) [] [.BR [g a 0]],.func (.func 168) [] []] λb=>.rr [b]
def tZ:EB cx 134 aA5:=λ_ _=>AA
def V_(p q:Aa):IT:=
 .cells 1 q λa=>.ca 120 [p,g a 0] λb=>.il [b,I 0] λc=>.AD c (.rr [I 0]) (.ca 167 [p,.func (.func 168) [] [],.func (.func 209) [] [.BR [g a 0]]] λd=>.rr [d])
def cP:EB cx 135 V_:=λ_ _=>AA
def aA6(p q:Aa):IT:=
 .ie [p,I 3] λa=>.AD a (.se [q,S aTP] λb=>.AD b (.rr [tt]) (.Bn 210 [p,q] λc=>.rr [c])) (.ie [p,I 2] λd=>.AD d (.se [q,S aVf] λe=>.AD e (.rr [tt]) (.se [q,S aUb] λf=>.AD f (.rr [tt]) (.se [q,S aTX] λh=>.rr [h]))) (.ie [p,I 1] λj=>.AD j (swv q (.rr [tt]) (.rr [ff]) Sb) (.rr [ff])))
def uA:EB cx 136 aA6:=λ_ _=>AA
def aFI:IT:=
 .ca 48 [] λa=>.ca 49 [a,ff] λb=>.ca 51 [a,b] λc=>.rr [c]
def W_:B4 cx 137 []=aFI:=AA
def aFJ(p q:Aa):IT:=
 .cells 12 q λa=>.BP p 6 λ_ _ b=>.ln [b] λc=>.ia [I 9,c] λd=>.loop 3 [ff,I 0] (λe=>.il [g e 1,d] λf=>.AD f (.BP p 4 λ_ _ h=>.Bn 139 [h] λj=>.nt [j] λk=>.AD k (.rr [tt,g e 1]) (.ca 23 [EY a] λm=>.ca 24 [p,m] λn=>.nt [n] λo=>.AD o (.rr [tt,g e 1]) (.ia [g e 1,I 1] λs=>.rn [g e 0,s]))) (.rx 0 [g e 0,g e 1])) (lx 0 (λu=>.BP p 4 λ_ _ w=>.Bn 139 [w] λy=>.nt [y] λz=>.rr [z]) λu=>.rr [g u 0])
def X_:EB cx 138 aFJ:=λ_ _=>AA
def aFK(p:Aa):IT:=
 .ih [p,I 1] λa=>.AD a (.ik [p,I 8] λb=>.AD b (.rr [tt]) (.ie [p,I 18] λc=>.rr [c])) (.ie [p,I 18] λd=>.rr [d])
def Y_:FC cx 139 aFK:=λ_=>AA
def aA7(p q:Aa):IT:=
 .op (.Qp true) [p,.ptr none] λa=>.AD a (.ih [q,I 1] λb=>.AD b (.BP p 0 λ_ _ c=>.ln [c] λd=>.ik [q,d] λe=>.rr [e]) (.rr [ff])) (.rr [ff])
def uB:EB cx 140 aA7:=λ_ _=>AA
def Z_(p q:Aa):IT:=
 .cells 13 q λa=>.BP p 0 λ_ _ b=>.op (.B6 [I 0,I 0,.slnil,I 0,I 0,S [],.slnil,S [],S [],S [],ff,I 0,I 0] [(0,13)]) [m_ a] λc=>.op (.Ch 13) [c] λd=>.FH 13 168 b d λe=>.fa p 0 λ_ f=>.store 1 f e (.BP p 0 λ_ _ h=>.ln [h] λj=>.rr [j])
def cQ:EB cx 143 Z_:=λ_ _=>AA
def À(p q:Aa):IT:=
 .BP p 0 λ_ _ a=>.ib [q,I 1] λb=>.ea 13 [a,b] λc=>.rr [c]
def cR:EB cx 144 À:=λ_ _=>AA
def aA8(p q:Aa):IT:=
 .cells 4 q λa=>.op (.Qp true) [p,.ptr none] λb=>.AD b (.BP p 0 λ_ _ c=>.BP p 0 λ_ _ d=>.ln [d] λe=>.ca 215 [c,a4 a,e] λf=>.fa p 0 λ_ h=>.store 1 h f (.rr [.tuple []])) (.rr [.tuple []])
def uC:EB cx 145 aA8:=λ_ _=>AA
def t146(p q r:Aa):IT:=
 .ie [p,I 2] λa=>.AD a (.Bn 136 [p,q] λb=>.rr [b]) (.iq [p,I 3] λc=>.AD c (.rr [ff]) (.op (.str .neq) [q,S aTP] λd=>.AD d (.rr [ff]) (.ca 216 [r,.func (.func 217) [] []] λe=>.ih [e,I 0] λf=>.AD f (.ea 3 [r,e] λh=>.fl h 2 λ_ j=>.Bn 182 [j,S aVb] λk=>.AD k (.rr [tt]) (.ea 3 [r,e] λm=>.fl m 2 λ_ n=>.Bn 182 [n,S aUp] λo=>.rr [o])) (.rr [ff]))))
def uD:QB cx 146 t146:=λ_ _ _=>AA
def Á(p q:Aa):IT:=
 .op (.Ch 1) [q] λa=>.ca 178 [p,a] λb=>.iq [b,I 0] λc=>.AD c (.op (.B6 [I 0,I 0,.slnil,I 0,I 0,S [],.slnil,S [],S [],S [],ff,I 0,I 0] []) [] λd=>.cells 13 d λe=>.rr [.tuple [m_ e,b]]) (.ca 144 [p,q] λf=>.ca 218 [f] λh=>.cells 13 h λj=>.rr [.tuple [m_ j,I 0]])
def cS:EB cx 147 Á:=λ_ _=>AA
def t148(p q r u:Aa):IT:=
 .cells 12 r λa=>.ca 93 [p,I 0] λb=>.op (.ext 0) [b] λc=>.op (.ext 1) [b] λd=>.D3 q [EY a,u,c] λe=>.cells 4 e λf=>.iq [g f 0,I 0] λh=>.AD h (.ca 96 [p,g f 0,c,d] λ_=>.fa p 2 λ_ j=>.ca 145 [j,a4 f] λ_=>.rr [g f 0]) (.rr [g f 0])
def cT:Tq4 cx 148 t148:=λ_ _ _ _=>AA
def aA9(p q:Aa):IT:=
 .cells 3 q λa=>.op (.Qp false) [p,.ptr none] λb=>.AD b (.rr [.tuple []]) (.iq [g a 0,I 0] λc=>.FZ 100011 (.AD c (.BP p 0 λ_ _ d=>.ln [d] λe=>.ib [e,I 1] λf=>.loop 5 [I 0,I 0,f] (λh=>.ca 166 [p] λj=>.ih [g h 2,j] λk=>.AD k (.BP p 0 λ_ _ m=>.ea 3 [m,g h 2] λn=>.load (some 3) n λo=>.ca 219 [o,a3 a] λs=>.FZ 100032 (.AD s (.ia [g h 1,I 1] λu=>.rn [g h 2,u]) (.rn [g h 0,g h 1])) (λx w=>match x with| .normal=>.ib [g h 2,I 1] λy=>.rn [g w 0,g w 1,y]| .exit i=>if i=1 then .ib [g h 2,I 1] λz=>.rn [g w 0,g w 1,z] else .ret (.exit i) [g w 0,g w 1,g h 2]| .ret=>.rr [g w 0,g w 1,g h 2])) (.rx 0 [g h 0,g h 1,g h 2])) (λx a0=>match x with| .normal=>.fail| .exit i=>if i=0 then .ih [g a0 1,I 3] λa1=>.FZ 100037 (.AD a1 (.BP p 0 λ_ _ a2=>.ca 220 [a2,g a0 0] λa5=>.fa p 0 λ_ a7=>.store 1 a7 a5 (.rn [])) (.rn [])) (λx _=>.ret x []) else .ret (.exit i) []| .ret=>.rr [])) (.rn [])) (nx (λa8=>.BP p 0 λ_ b0 b1=>.BP p 0 λ_ b2 b3=>.ln [b3] λb4=>.ca 221 [a3 a] λb5=>.ld b2 λb6=>.same b3 b6 (.ld b0 λb7=>.same b1 b7 (.ca 164 [b1,b5,b4] λb8=>.fa p 0 λ_ b9=>.store 1 b9 b8 (.rr [.tuple []])))) λa8=>.rr [.tuple []]))
def uE:EB cx 149 aA9:=λ_ _=>AA
def aBa(p q:Aa):IT:=
 .ln [p] λa=>.loop 2 [I 0,I 0] (λb=>.il [g b 1,a] λc=>.AD c (.ea 1 [p,g b 1] λd=>.ld d λe=>.ie [q,e] λf=>.AD f (.rr [g b 1,g b 1]) (.ia [g b 1,I 1] λh=>.rn [g b 0,h])) (.rx 0 [g b 0,g b 1])) (lx 0 (λj=>.rr [I (-1)]) λj=>.rr [g j 0])
def uF:EB cx 150 aBa:=λ_ _=>AA
def aBb(p q:Aa):IT:=
 .op (.conv .u32) [q] λa=>.ik [a,.int .u32 127] λb=>.AD b (.op (.conv .u8) [q] λc=>.op (.Ch 1) [c] λd=>.FH 1 1 p d λe=>.rr [e]) (.ca 222 [p,q] λf=>.rr [f])
def uG:EB cx 151 aBb:=λ_ _=>AA
def aBc(p q r:Aa):IT:=
 .op (.Ch 1) [q] λa=>.ca 178 [p,a] λb=>.iq [b,I 0] λc=>.AD c (.rr [b]) (.ca 144 [p,q] λd=>.fa d 0 λ_ e=>.fl e 0 λ_ f=>.iq [f,I 5] λh=>.AD h (.fa d 0 λ_ j=>.fl j 0 λ_ k=>.iq [k,I 6] λm=>.AD m (.rr [I 9]) (.fa d 0 λ_ n=>.op (.Fb 7) [n] λo=>.store 1 o r (.rr [I 0]))) (.fa d 0 λ_ s=>.op (.Fb 7) [s] λu=>.store 1 u r (.rr [I 0])))
def uH:QB cx 152 aBc:=λ_ _ _=>AA
def aBd(p q r:Aa):IT:=
 .op (.B6 [I 0,I 0,.slnil,I 0,I 0,S [],.slnil,S [],S [],S [],ff,I 0,I 0] [(0,1),(7,1)]) [I 5,r] λa=>.ca 177 [p,q,a] λb=>.op (.ext 0) [b] λc=>.op (.ext 1) [b] λd=>.rr [.tuple [c,d]]
def uI:QB cx 153 aBd:=λ_ _ _=>AA
def aBe(p q r:Aa):IT:=
 .cells 1 r λa=>.ca 223 [p,q,.func (.func 224) [] [.BR [g a 0]]] λb=>.rr [b]
def uJ:QB cx 154 aBe:=λ_ _ _=>AA
def aBf(p:Aa):IT:=
 .ca 87 [p] λa=>.nt [a] λb=>.AD b (.op (.B6 [I 0,I 0,S [],ff] []) [] λc=>.cells 4 c λd=>.rr [a4 d]) (.fa p 2 λ_ e=>.ca 165 [e] λf=>.cells 4 f λh=>.rr [a4 h])
def uK:FC cx 155 aBf:=λ_=>AA
def aBg(p q:Aa):IT:=
 .op (.Qp false) [p,.ptr none] λa=>.AD a (.rr [I (-1)]) (.ie [q,I 0] λb=>.AD b (.rr [I (-1)]) (.BP p 0 λ_ _ c=>.ln [c] λd=>.ib [d,I 1] λe=>.loop 4 [I 0,e] (λf=>.ih [g f 1,I 0] λh=>.AD h (.BP p 0 λ_ _ j=>.ea 3 [j,g f 1] λk=>.fl k 0 λ_ m=>.ie [m,q] λn=>.AD n (.rr [g f 1,g f 1]) (.ib [g f 1,I 1] λo=>.rn [g f 0,o])) (.rx 0 [g f 0,g f 1])) (lx 0 (λs=>.rr [I (-1)]) λs=>.rr [g s 0])))
def uL:EB cx 156 aBg:=λ_ _=>AA
def jM(p q:Aa):IT:=
 .fa p 3 λ_ a=>.ca 201 [a,q] λb=>.il [b,I 0] λc=>.AD c (.ca 44 [p,q] λ_=>.rr [ff]) (.fa p 3 λ_ d=>.fl d 0 λ_ e=>.ea 3 [e,b] λf=>.load (some 3) f λh=>.op (.B6 [I 0,S [],.slnil,I 0,I 0,I 0,I 0,S [],ff,I 0,I 0,S [],ff,I 0] [(0,3),(3,1),(4,1)]) [h,b,b] λj=>.alloc 14 j λk=>.fa k 0 λ_ m=>.fl m 0 λ_ n=>.fa p 2 λ_ o=>.ca 120 [o,n] λs=>.il [s,I 0] λu=>.AD u (.ca 225 [k,p,b] λ_=>.rr [ff]) (.ie [s,I 0] λw=>.AD w (.rr [ff]) (.fa p 2 λ_ y=>.ca 205 [y,I 1,n] λz=>.nt [z] λa0=>.AD a0 (.rr [ff]) (.fa p 2 λ_ a1=>.ca 226 [a1,n] λa2=>.il [a2,I 0] λa5=>.AD a5 (.fa p 2 λ_ a7=>.ca 135 [a7,n] λ_=>.ca 225 [k,p,b] λ_=>.rr [ff]) (.fa p 2 λ_ a8=>.ib [s,I 1] λb0=>.fa p 2 λ_ b1=>.ca 132 [a8,b0] λb2=>.ca 132 [b1,a2] λb3=>.fa k 5 λ_ b4=>.store 4 b4 b2 (.fa k 9 λ_ b5=>.store 4 b5 b3 (.fa k 9 λ_ b6=>.fl b6 0 λ_ b7=>.fa k 13 λ_ b8=>.store 1 b8 b7 (.ca 227 [p,k,s,a2] λ_=>.fa k 5 λ_ b9=>.fl b9 0 λ_ c0=>.ca 93 [p,c0] λc1=>.op (.ext 0) [c1] λc2=>.op (.ext 1) [c1] λc3=>.BP k 13 λ_ _ c4=>.ca 96 [p,c4,c2,c3] λ_=>.fa k 0 λ_ c5=>.load (some 3) c5 λc6=>.fa k 9 λ_ c7=>.fl c7 0 λc8 c9=>.ca 122 [c6] λd0=>.ld c8 λd1=>.same c9 d1 (.ca 67 [p,d0,I 1,c9] λd2=>.cells 4 d2 λd3=>.BP p 0 λ_ _ d4=>.fa k 9 λ_ d5=>.fl d5 0 λ_ d6=>.ca 190 [d4,d6] λd7=>.ln [d7] λd8=>.loop 25 [I 0] (λd9=>.il [g d9 0,d8] λe0=>.AD e0 (.ea 1 [d7,g d9 0] λe1=>.ld e1 λe2=>.ca 96 [p,e2,g d3 0,I 0] λ_=>.ia [g d9 0,I 1] λe3=>.rn [e3]) (.rx 0 [g d9 0])) (lx 0 (λe4=>.fa k 9 λ_ e5=>.fl e5 0 λ_ e6=>.ca 96 [p,g d3 0,e6,I 0] λ_=>.BP k 3 λ_ _ e7=>.ca 225 [k,p,e7] λ_=>.fa p 3 λ_ e8=>.fa k 0 λ_ e9=>.fl e9 1 λ_ f0=>.fa k 0 λ_ f1=>.fl f1 2 λ_ f2=>.op (.B6 [I 0,S [],.slnil] [(0,1),(1,1),(2,1)]) [g d3 0,f0,f2] λf3=>.BP k 4 λ_ _ f4=>.ca 228 [e8,f3,f4] λ_=>.fa p 2 λ_ f5=>.ca 186 [f5,n] λ_=>.fa p 2 λ_ f6=>.fa p 2 λ_ f7=>.fa k 9 λ_ f8=>.fl f8 0 λ_ f9=>.ca 120 [f7,f9] λh0=>.ia [h0,I 1] λh1=>.ca 229 [f6,a4 d3,h1] λ_=>.rr [tt]) λe4=>.rr [ff]))))))))))
def N2:EB cx 157 jM:=λ_ _=>AA
def aBh(p q r:Aa):IT:=
 .cells 4 q λa=>.ca 230 [] λb=>.ln [b] λc=>.loop 2 [I 0,ff,I 0] (λd=>.il [g d 2,c] λe=>.AD e (.ea 2 [b,g d 2] λf=>.load (some 2) f λh=>.cells 2 h λj=>.op (.Ch 1) [g j 0] λk=>.ca 133 [a4 a,k] λm=>.AD m (.rr [g j 1,tt,g d 2]) (.ia [g d 2,I 1] λn=>.rn [g d 0,g d 1,n])) (.rx 0 [g d 0,g d 1,g d 2])) (lx 0 (λo=>.op (.Ch 1) [S aUf] λs=>.ca 133 [a4 a,s] λu=>.AD u (.ca 231 [p,r] λw=>.rr [.tuple [w,tt]]) (.FZ 200009 (.op (.Ch 1) [S [116,100],S [116,104]] λy=>.ca 133 [a4 a,y] λz=>.AD z (.ig [r,I 0] λa0=>.rn [a0]) (.rn [ff])) (λx a1=>match x with| .normal=>.AD (g a1 0) (.rr [.tuple [I 15,tt]]) (.op (.Ch 1) [S aTz] λa2=>.ca 133 [a4 a,a2] λa5=>.AD a5 (.BP p 6 λ_ _ a7=>.ln [a7] λa8=>.ig [a8,I 0] λb0=>.AD b0 (.BP p 6 λ_ _ b1=>.ib [a8,I 1] λb2=>.ea 1 [b1,b2] λb3=>.ld b3 λb4=>.rr [.tuple [b4,tt]]) (.rr [.tuple [I 7,tt]])) (.FZ 200016 (.op (.Ch 1) [S aTB] λb5=>.ca 133 [a4 a,b5] λb6=>.AD b6 (.ig [r,I 0] λb7=>.rn [b7]) (.rn [ff])) (λx b8=>match x with| .normal=>.AD (g b8 0) (.rr [.tuple [I 4,tt]]) (.op (.Ch 1) [S aTA] λb9=>.ca 133 [a4 a,b9] λc1=>.AD c1 (.BP p 7 λ_ _ c2=>.ie [c2,I 0] λc4=>.AD c4 (.rr [.tuple [I 3,tt]]) (.rr [.tuple [I 6,tt]])) (.ie [r,I 0] λc5=>.rr [.tuple [I 7,c5]]))| .exit i=>if i=2 then .ie [r,I 0] λc6=>.rr [.tuple [I 7,c6]] else .fail| .ret=>.rr [.tuple [g o 0,g o 1]])))| .exit i=>if i=2 then .ie [r,I 0] λc8=>.rr [.tuple [I 7,c8]] else .fail| .ret=>.rr [.tuple [g o 0,g o 1]]))) λo=>.rr [.tuple [g o 0,g o 1]])
def uM:QB cx 158 aBh:=λ_ _ _=>AA
def Â(p q:Aa):IT:=
 .ca 216 [p,q] λa=>.ih [a,I 0] λb=>.rr [b]
def cU:EB cx 159 Â:=λ_ _=>AA
def aBi(p q:Aa):IT:=
 .cells 3 p λa=>.ie [g a 0,I 0] λb=>.AD b (.fl q 1 λ_ c=>.se [g a 1,c] λd=>.rr [d]) (.rr [ff])
def uN:EB cx 160 aBi:=λ_ _=>AA
def aBj(p q r:Aa):IT:=
 .op (.Ch 1) [q] λa=>.ca 178 [p,a] λb=>.iq [b,I 0] λc=>.AD c (.rr [b]) (.ca 144 [p,q] λd=>.fa d 0 λ_ e=>.fl e 0 λ_ f=>.iq [f,I 4] λh=>.AD h (.rr [I 9]) (.ca 232 [r] λj=>.op (.ext 0) [j] λk=>.op (.ext 1) [j] λm=>.nt [m] λn=>.AD n (.rr [I 2]) (.fa d 0 λ_ o=>.op (.Fb 6) [o] λs=>.store 1 s k (.rr [I 0]))))
def uO:QB cx 161 aBj:=λ_ _ _=>AA
def aBk(p q:Aa):IT:=
 .cells 1 q λa=>.ca 203 [p,.func (.func 233) [] [.BR [g a 0]]] λb=>.rr [b]
def uP:EB cx 162 aBk:=λ_ _=>AA
def aBl(p:Aa):IT:=
 .ca 167 [p,.func (.func 234) [] [],.func (.func 168) [] []] λa=>.rr [a]
def uQ:FC cx 163 aBl:=λ_=>AA
def t164(p q r:Aa):IT:=
 .cells 3 q λa=>.op (.OM 3 false false true) [p,r] λb=>.op (.append 3 48) [.slnil,b] λc=>.op (.Ch 3) [a3 a] λd=>.op (.append 3 48) [c,d] λe=>.op (.OM 3 false true false) [p,r] λf=>.op (.append 3 48) [e,f] λh=>.rr [h]
def uR:QB cx 164 t164:=λ_ _ _=>AA
def aBm(p:Aa):IT:=
 .ca 131 [p] λa=>.ib [a,I 1] λb=>.ca 132 [p,b] λc=>.cells 4 c λd=>.rr [a4 d]
def uS:FC cx 165 aBm:=λ_=>AA
def aBn(p:Aa):IT:=
 .BP p 0 λ_ _ a=>.ln [a] λb=>.loop 2 [b] (λc=>.ig [g c 0,I 0] λd=>.AD d (.BP p 0 λ_ _ e=>.ib [g c 0,I 1] λf=>.ea 3 [e,f] λh=>.fl h 0 λ_ j=>.iq [j,I 0] λk=>.AD k (.ib [g c 0,I 1] λm=>.rn [m]) (.rx 0 [g c 0])) (.rx 0 [g c 0])) (lx 0 (λn=>.rr [g n 0]) λn=>.rr [I 0])
def uT:FC cx 166 aBn:=λ_=>AA
def aBo(p q r:Aa):IT:=
 .loop 2 [I 0] (λa=>.ca 131 [p] λb=>.ig [b,I 1] λc=>.AD c (.ca 165 [p] λd=>.D3 q [d] λe=>.nt [e] λf=>.AD f (.ia [g a 0,I 1] λh=>.ca 64 [p] λj=>.D3 r [j] λk=>.AD k (.rx 0 [h]) (.rn [h])) (.rx 0 [g a 0])) (.rx 0 [g a 0])) (lx 0 (λm=>.rr [g m 0]) λm=>.rr [I 0])
def uU:QB cx 167 aBo:=λ_ _ _=>AA
def aBp(p:Aa):IT:=
 .cells 4 p λ_=>.rr [ff]
def uV:FC cx 168 aBp:=λ_=>AA
def aBq(p q:Aa):IT:=
 .cells 4 p λa=>.ld q λb=>.ca 170 [a4 a,b] λc=>.rr [c]
def uW:EB cx 169 aBq:=λ_ _=>AA
def aBr(p q:Aa):IT:=
 .cells 4 p λa=>.ie [g a 1,I 1] λb=>.AD b (.ca 206 [q,g a 2] λc=>.rr [c]) (.rr [ff])
def uX:EB cx 170 aBr:=λ_ _=>AA
def aBs(p q:Aa):IT:=
 .MX λa=>.op (.B6 [I 0,S [],S []] [(0,1),(1,1)]) [I 4,S aU5] λb=>.Hw a (S aUt) b (.op (.B6 [I 0,S [],S []] [(0,1),(1,1)]) [I 4,S aU3] λc=>.Hw a (S aUr) c (.op (.B6 [I 0,S [],S []] [(0,1),(1,1)]) [I 4,S aVt] λd=>.Hw a (S aUB) d (.op (.B6 [I 0,S [],S []] [(0,1),(1,1)]) [I 4,S aVu] λe=>.Hw a (S aUC) e (.op (.B6 [I 0,S [],S []] [(0,1),(1,1)]) [I 4,S aVv] λf=>.Hw a (S aUD) f (.op (.B6 [I 0,S [],S []] [(0,1),(1,1)]) [I 4,S aTX] λh=>.Hw a (S aUx) h (.op (.B6 [I 0,S [],S []] [(0,1),(1,1)]) [I 4,S aUG] λj=>.Hw a (S aUE) j (.op (.B6 [I 0,S [],S []] [(0,1),(1,1)]) [I 5,S [108,97,110,103]] λk=>.Hw a (S aUU) k (.op (.B6 [I 0,S [],S []] [(0,1),(1,1)]) [I 5,S aVm] λm=>.Hw a (S aUL) m (.op (.B6 [I 0,S [],S []] [(0,1),(1,1)]) [I 6,S aUz] λn=>.Hw a (S aUz) n (.op (.B6 [I 0,S [],S []] [(0,1),(1,1)]) [I 6,S aVh] λo=>.Hw a (S aUy) o (.ln [q] λs=>.loop 4 [.slnil,I 0] (λu=>.il [g u 1,s] λw=>.AD w (.ea 3 [q,g u 1] λy=>.load (some 3) y λz=>.cells 3 z λa0=>.op (.B6 [I 0,S [],S []] [(1,1),(2,1)]) [g a0 1,g a0 2] λa1=>.cells 3 a1 λa2=>.ie [p,I 2] λa5=>.FZ 100036 (.AD a5 (.Bn 236 [g a0 1] λa7=>.cells 1 a7 λa8=>.rn [.agg [g a2 0,g a8 0,g a2 2]]) (.FZ 200009 (.ie [p,I 3] λb0=>.AD b0 (.se [g a0 1,S aUK] λb1=>.rn [b1]) (.rn [ff])) (λx b2=>match x with| .normal=>.FZ 100043 (.AD (g b2 0) (.cells 1 (S aUM) λb3=>.rn [.agg [g a2 0,g b3 0,g a2 2]]) (.rn [a3 a2])) (λx b4=>.cells 3 (g b4 0) λb5=>.ret x [a3 b5])| .exit i=>.ret (.exit i) [a3 a2]| .ret=>.rr [a3 a2]))) (λx b6=>.cells 3 (g b6 0) λb7=>match x with| .normal=>.LI (.agg [I 0,S [],S []]) true a (g b7 1) λb8=>.op (.ext 0) [b8] λb9=>.op (.ext 1) [b8] λc0=>.cells 3 b9 λc1=>.FZ 200012 (.AD c0 (.ie [p,I 2] λc2=>.AD c2 (.rn [tt]) (.ie [p,I 3] λc3=>.rn [c3])) (.rn [ff])) (λx c4=>match x with| .normal=>.FZ 100067 (.AD (g c4 0) (.cells 1 (g c1 0) λc5=>.cells 1 (g c1 1) λc6=>.rn [.agg [g c5 0,g c6 0,g b7 2]]) (.rn [a3 b7])) (λx c7=>.cells 3 (g c7 0) λc8=>match x with| .normal=>.op (.Ch 3) [a3 c8] λc9=>.op (.append 3 40) [g u 0,c9] λd0=>.ia [g u 1,I 1] λd1=>.rn [d0,d1]| .exit i=>if i=1 then .ia [g u 1,I 1] λd2=>.rn [g u 0,d2] else .ret (.exit i) [g u 0,g u 1]| .ret=>.rr [g u 0,g u 1])| .exit i=>if i=1 then .ia [g u 1,I 1] λd3=>.rn [g u 0,d3] else .ret (.exit i) [g u 0,g u 1]| .ret=>.rr [g u 0,g u 1])| .exit i=>if i=2 then .LI (.agg [I 0,S [],S []]) true a (g b7 1) λd4=>.op (.ext 0) [d4] λd5=>.op (.ext 1) [d4] λd6=>.cells 3 d5 λd7=>.FZ 200012 (.AD d6 (.ie [p,I 2] λd8=>.AD d8 (.rn [tt]) (.ie [p,I 3] λd9=>.rn [d9])) (.rn [ff])) (λx e0=>match x with| .normal=>.FZ 100067 (.AD (g e0 0) (.cells 1 (g d7 0) λe1=>.cells 1 (g d7 1) λe2=>.rn [.agg [g e1 0,g e2 0,g b7 2]]) (.rn [a3 b7])) (λx e3=>.cells 3 (g e3 0) λe4=>match x with| .normal=>.op (.Ch 3) [a3 e4] λe5=>.op (.append 3 40) [g u 0,e5] λe6=>.ia [g u 1,I 1] λe7=>.rn [e6,e7]| .exit i=>if i=1 then .ia [g u 1,I 1] λe8=>.rn [g u 0,e8] else .ret (.exit i) [g u 0,g u 1]| .ret=>.rr [g u 0,g u 1])| .exit i=>if i=1 then .ia [g u 1,I 1] λe9=>.rn [g u 0,e9] else .ret (.exit i) [g u 0,g u 1]| .ret=>.rr [g u 0,g u 1]) else if i=1 then .ia [g u 1,I 1] λf0=>.rn [g u 0,f0] else .ret (.exit i) [g u 0,g u 1]| .ret=>.rr [g u 0,g u 1])) (.rx 0 [g u 0,g u 1])) (lx 0 (λf1=>.rr [g f1 0]) λf1=>.rr [.slnil]))))))))))))
def uY:EB cx 171 aBs:=λ_ _=>AA
end Go.Am
