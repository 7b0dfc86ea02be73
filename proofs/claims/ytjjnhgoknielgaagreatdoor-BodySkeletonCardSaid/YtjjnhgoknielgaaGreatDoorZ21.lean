/- Lemmas -/
import Derived.Test.YtjjnhgoknielgaaGreatDoorZ9
import Derived.Test.YtjjnhgoknielgaaGreatDoorZ17
set_option linter.all false
namespace Go.Am
open Go
def aEt(p:Aa):IT:=
 .Cj p 0 λ_ _ a=>.fa a 14 λ_ b=>.store 1 b ff (.fa p 1 λ_ c=>.fl c 1 λ_ d=>.op (.str .neq) [d,S [108,105]] λe=>.GK 100016 (.A3 e (.rn [S aYl]) (.rn [S [108,105]])) (nx (λf=>.Cj p 0 λ_ _ h=>.fa h 2 λ_ j=>.ca 121 [j] λk=>.ib [k,I 1] λm=>.loop 5 [m] (λn=>.ih [g n 0,I 0] λo=>.A3 o (.Cj p 0 λ_ _ s=>.fa s 2 λ_ u=>.ca 163 [u,g n 0] λw=>.cells 4 w λy=>.GK 200008 (.ie [g y 1,I 1] λz=>.A3 z (.BH 116 [g y 2,g f 0] λa0=>.rn [a0]) (.rn [ff])) (λx a1=>match x with| .normal=>.A3 (g a1 0) (.ca 207 [p,g y 2,g y 2] λ_=>.rx 0 [g n 0]) (.GK 200010 (.BH 167 [g y 1,g y 2] λa2=>.A3 a2 (.ie [g y 1,I 1] λa5=>.A3 a5 (.BH 116 [g y 2,S aXL] λa7=>.nt [a7] λa8=>.rn [a8]) (.nt [ff] λb0=>.rn [b0])) (.rn [ff])) (λx b1=>match x with| .normal=>.A3 (g b1 0) (.rx 0 [g n 0]) (.ib [g n 0,I 1] λb2=>.rn [b2])| .exit i=>if i=2 then .ib [g n 0,I 1] λb3=>.rn [b3] else if i=1 then .ib [g n 0,I 1] λb4=>.rn [b4] else .ret (.exit i) [g n 0]| .ret=>.rr [g n 0]))| .exit i=>if i=2 then .ib [g n 0,I 1] λb5=>.rn [b5] else if i=1 then .ib [g n 0,I 1] λb6=>.rn [b6] else .ret (.exit i) [g n 0]| .ret=>.rr [g n 0])) (.rx 0 [g n 0])) (lx 0 (λb7=>.ca 131 [p] λ_=>.rr [.tuple []]) λb7=>.rr [.tuple []])) λf=>.rr [.tuple []]))
def zQ:GM cx 141 aEt:=λ_=>AP
def aAj(p:Aa):IT:=
 .Cj p 0 λ_ _ a=>.ca 180 [a] λb=>.ca 208 [b,S aWH] λc=>.A3 c (.Cj p 0 λ_ _ d=>.fa d 2 λ_ e=>.ca 76 [e] λ_=>.Cj p 0 λ_ _ f=>.ca 84 [f] λ_=>.Cj p 0 λ_ _ h=>.fa p 1 λ_ j=>.load (some 12) j λk=>.ca 70 [h,k] λ_=>.rr [.tuple []]) (.Cj p 0 λ_ _ m=>.ca 84 [m] λ_=>.Cj p 0 λ_ _ n=>.fa p 1 λ_ o=>.load (some 12) o λs=>.ca 70 [n,s] λ_=>.rr [.tuple []])
def gZ:GM cx 142 aAj:=λ_=>AP
def uH(p:Aa):IT:=
 .Cj p 0 λ_ _ a=>.ca 88 [a] λb=>.A3 b (.rr [.tuple []]) (.Cj p 0 λ_ _ c=>.fa c 2 λ_ d=>.ca 121 [d] λe=>.ie [e,I 0] λf=>.A3 f (.rr [.tuple []]) (.fa p 1 λ_ h=>.fl h 1 λ_ j=>.se [j,S aWu] λk=>.A3 k (.Cj p 0 λ_ m n=>.fa p 1 λ_ o=>.load (some 12) o λs=>.Cj p 0 λ_ _ u=>.fa u 2 λ_ w=>.ca 163 [w,I 0] λy=>.load (some 12) o λz=>.same s z (.ld m λa0=>.same n a0 (.op (.part 0 none) [y] λa1=>.ca 209 [n,s,a1] λ_=>.rr [.tuple []]))) (.ca 210 [p] λa2=>.op (.ext 0) [a2] λa5=>.op (.ext 1) [a2] λa7=>.A3 a7 (.Cj p 0 λ_ _ a8=>.fa a8 14 λ_ b0=>.store 1 b0 ff (.Cj p 0 λ_ _ b1=>.fa p 1 λ_ b2=>.load (some 12) b2 λb3=>.ca 209 [b1,b3,a5] λ_=>.rr [.tuple []])) (.rr [.tuple []]))))
def Rx:GM cx 143 uH:=λ_=>AP
def Ì(p:Aa):IT:=
 .ca 210 [p] λa=>.op (.ext 0) [a] λb=>.op (.ext 1) [a] λc=>.nt [c] λd=>.A3 d (.rr [.tuple []]) (.Cj p 0 λ_ _ e=>.Cj e 14 λ_ _ f=>.nt [f] λh=>.A3 h (.rr [.tuple []]) (.Cj p 0 λ_ _ j=>.Cj j 0 λ_ _ k=>.ca 211 [k,b] λ_=>.loop 3 [] (λ_=>.Cj p 0 λ_ _ m=>.fa m 2 λ_ n=>.ca 121 [n] λo=>.ig [o,I 1] λs=>.A3 s (.Cj p 0 λ_ _ u=>.fa u 2 λ_ w=>.ca 76 [w] λ_=>.rn []) (.rx 0 [])) (lx 0 (λy=>.Cj p 0 λ_ _ z=>.fa p 1 λ_ a0=>.load (some 12) a0 λa1=>.ca 70 [z,a1] λ_=>.Cj p 0 λ_ _ a2=>.fa a2 4 λ_ a5=>.store 1 a5 (I 20) (.rr [.tuple []])) λy=>.rr [.tuple []])))
def WQ:GM cx 144 Ì:=λ_=>AP
def qb(p:Aa):IT:=
 .Cj p 0 λ_ _ a=>.ca 88 [a] λb=>.Cj p 0 λ_ _ c=>.Cj c 8 λ_ _ d=>.iq [d,I 0] λe=>.A3 e (.nt [b] λf=>.A3 f (.rr [.tuple []]) (.Cj p 0 λ_ _ h=>.ca 202 [h] λ_=>.Cj p 0 λ_ _ j=>.fa p 1 λ_ k=>.load (some 12) k λm=>.ca 70 [j,m] λn=>.nt [b] λo=>.A3 o (.Cj p 0 λ_ _ s=>.fa s 8 λ_ u=>.store 1 u n (.rr [.tuple []])) (.rr [.tuple []]))) (.Cj p 0 λ_ _ w=>.ca 202 [w] λ_=>.Cj p 0 λ_ _ y=>.fa p 1 λ_ z=>.load (some 12) z λa0=>.ca 70 [y,a0] λa1=>.nt [b] λa2=>.A3 a2 (.Cj p 0 λ_ _ a5=>.fa a5 8 λ_ a7=>.store 1 a7 a1 (.rr [.tuple []])) (.rr [.tuple []]))
def TR:GM cx 145 qb:=λ_=>AP
def t146(p:Aa):IT:=
 .ca 206 [p,S aWx] λa=>.A3 a (.ca 207 [p,S aWx,S []] λ_=>.Cj p 0 λ_ _ b=>.ca 84 [b] λ_=>.Cj p 0 λ_ _ c=>.fa p 1 λ_ d=>.load (some 12) d λe=>.ca 70 [c,e] λ_=>.Cj p 0 λ_ _ f=>.fa f 14 λ_ h=>.store 1 h ff (.rr [.tuple []])) (.Cj p 0 λ_ _ j=>.ca 84 [j] λ_=>.Cj p 0 λ_ _ k=>.fa p 1 λ_ m=>.load (some 12) m λn=>.ca 70 [k,n] λ_=>.Cj p 0 λ_ _ o=>.fa o 14 λ_ s=>.store 1 s ff (.rr [.tuple []]))
def hO:GM cx 146 t146:=λ_=>AP
def aAk(p:Aa):IT:=
 .Cj p 0 λ_ _ a=>.fa a 3 λ_ b=>.ca 212 [b,S [97]] λc=>.ih [c,I 0] λd=>.A3 d (.Cj p 0 λ_ _ e=>.fa e 3 λ_ f=>.fl f 0 λ_ h=>.ea 3 [h,c] λj=>.fl j 0 λ_ k=>.Cj p 0 λ_ _ m=>.ca 157 [m,S [97]] λ_=>.Cj p 0 λ_ _ n=>.fa n 3 λ_ o=>.ca 213 [o,k] λ_=>.Cj p 0 λ_ _ s=>.fa s 2 λ_ u=>.ca 127 [u,k] λ_=>.ca 134 [p] λ_=>.rr [.tuple []]) (.ca 134 [p] λ_=>.rr [.tuple []])
def hZ:GM cx 147 aAk:=λ_=>AP
def t148(p:Aa):IT:=
 .Cj p 0 λ_ _ a=>.ca 84 [a] λ_=>.ca 206 [p,S aWT] λb=>.A3 b (.Cj p 0 λ_ _ c=>.ca 157 [c,S aWT] λ_=>.Cj p 0 λ_ _ d=>.ca 84 [d] λ_=>.Cj p 0 λ_ _ e=>.fa p 1 λ_ f=>.load (some 12) f λh=>.ca 204 [e,h] λ_=>.rr [.tuple []]) (.Cj p 0 λ_ _ j=>.fa p 1 λ_ k=>.load (some 12) k λm=>.ca 204 [j,m] λ_=>.rr [.tuple []])
def iA:GM cx 148 t148:=λ_=>AP
def aAl(p:Aa):IT:=
 .Cj p 0 λ_ _ a=>.Cj a 0 λ_ _ b=>.Cj p 0 λ_ _ c=>.Cj c 1 λ_ _ d=>.ca 13 [b,d] λe=>.op (.ext 0) [e] λf=>.op (.ext 1) [e] λ_=>.cells 13 f λh=>.nt [g h 10] λj=>.A3 j (.Cj p 0 λ_ _ k=>.ca 202 [k] λ_=>.Cj p 0 λ_ _ m=>.fa p 1 λ_ n=>.load (some 12) n λo=>.ca 70 [m,o] λ_=>.Cj p 0 λ_ _ s=>.fa s 14 λ_ u=>.store 1 u ff (.Cj p 0 λ_ _ w=>.fa w 4 λ_ y=>.store 1 y (I 9) (.rr [.tuple []]))) (.Cj p 0 λ_ _ z=>.fa p 1 λ_ a0=>.load (some 12) a0 λa1=>.ca 70 [z,a1] λ_=>.Cj p 0 λ_ _ a2=>.fa a2 14 λ_ a5=>.store 1 a5 ff (.Cj p 0 λ_ _ a7=>.fa a7 4 λ_ a8=>.store 1 a8 (I 9) (.rr [.tuple []])))
def iB:GM cx 149 aAl:=λ_=>AP
def oD(p:Aa):IT:=
 .Cj p 0 λ_ _ a=>.ca 84 [a] λ_=>.Cj p 0 λ_ _ b=>.fa p 1 λ_ c=>.load (some 12) c λd=>.ca 70 [b,d] λ_=>.Cj p 0 λ_ _ e=>.fa e 14 λ_ f=>.store 1 f ff (.Cj p 0 λ_ _ h=>.Cj h 4 λ_ _ j=>.ie [j,I 9] λk=>.A3 k (.Cj p 0 λ_ _ m=>.fa m 4 λ_ n=>.store 1 n (I 17) (.rr [.tuple []])) (.ie [j,I 11] λo=>.A3 o (.Cj p 0 λ_ _ s=>.fa s 4 λ_ u=>.store 1 u (I 17) (.rr [.tuple []])) (.ie [j,I 13] λw=>.A3 w (.Cj p 0 λ_ _ y=>.fa y 4 λ_ z=>.store 1 z (I 17) (.rr [.tuple []])) (.ie [j,I 14] λa0=>.A3 a0 (.Cj p 0 λ_ _ a1=>.fa a1 4 λ_ a2=>.store 1 a2 (I 17) (.rr [.tuple []])) (.ie [j,I 15] λa5=>.A3 a5 (.Cj p 0 λ_ _ a7=>.fa a7 4 λ_ a8=>.store 1 a8 (I 17) (.rr [.tuple []])) (.Cj p 0 λ_ _ b0=>.fa b0 4 λ_ b1=>.store 1 b1 (I 16) (.rr [.tuple []])))))))
def PE:GM cx 150 oD:=λ_=>AP
def aEu(p q:Aa):IT:=
 .cells 1 q λa=>.ca 195 [p,.func (.func 214) [] [.B9 [g a 0]]] λb=>.rr [b]
def zR:F7 cx 151 aEu:=λ_ _=>AP
def Í(p:Aa):IT:=
 .op (.Gf false .sl) [p,.slnil] λa=>.A3 a (.rr [.slnil]) (.op (.CC 3) [] λb=>.Kf 3 48 b p λc=>.rr [c])
def WR:GM cx 152 Í:=λ_=>AP
def aEv(p:Aa):IT:=
 .cells 3 p λa=>.op (.C7 [I 0,S [],ff,S [],ff,S [],ff,ff,.slnil,ff,S [],.int .i32 0] [(0,1),(1,1),(8,1)]) [I 2,g a 1,g a 2] λb=>.cells 12 b λc=>.rr [GA c]
def zS:GM cx 153 aEv:=λ_=>AP
def aAm(p:Aa):IT:=
 .ca 206 [p,S aWz] λa=>.nt [a] λb=>.A3 b (.rr [ff]) (.Cj p 0 λ_ _ c=>.fa c 4 λ_ d=>.store 1 d (I 19) (.fa p 1 λ_ e=>.fl e 1 λ_ f=>.se [f,S aWu] λh=>.rr [h]))
def iC:GM cx 154 aAm:=λ_=>AP
def aAn(p:Aa):IT:=
 .fa p 1 λ_ a=>.fl a 1 λ_ b=>.ca 206 [p,b] λc=>.A3 c (.fa p 1 λ_ d=>.fl d 1 λ_ e=>.ca 207 [p,e,S []] λ_=>.rr [.tuple []]) (.rr [.tuple []])
def iD:GM cx 155 aAn:=λ_=>AP
def aEw(p:Aa):IT:=
 .Cj p 0 λ_ _ a=>.fa p 1 λ_ b=>.fl b 1 λ_ c=>.ca 157 [a,c] λ_=>.rr [.tuple []]
def zT:GM cx 156 aEw:=λ_=>AP
def aAo(p q:Aa):IT:=
 .ca 102 [p] λa=>.nt [a] λb=>.A3 b (.rr [.tuple []]) (.ca 180 [p] λc=>.cells 4 c λd=>.op (.CC 1) [q] λe=>.ca 164 [a4 d,e] λf=>.A3 f (.fa p 3 λ_ h=>.ca 215 [h,g d 0] λj=>.il [j,I 0] λk=>.A3 k (.fa p 2 λ_ m=>.ca 76 [m] λ_=>.rr [.tuple []]) (.loop 5 [I 0] (λn=>.il [g n 0,I 8] λo=>.A3 o (.ca 216 [p,q] λs=>.nt [s] λu=>.A3 u (.rr [g n 0]) (.ia [g n 0,I 1] λw=>.rn [w])) (.rx 0 [g n 0])) (lx 0 (λy=>.rr [.tuple []]) λy=>.rr [.tuple []]))) (.loop 5 [I 0] (λz=>.il [g z 0,I 8] λa0=>.A3 a0 (.ca 216 [p,q] λa1=>.nt [a1] λa2=>.A3 a2 (.rr [g z 0]) (.ia [g z 0,I 1] λa5=>.rn [a5])) (.rx 0 [g z 0])) (lx 0 (λa7=>.rr [.tuple []]) λa7=>.rr [.tuple []])))
def iE:F7 cx 157 aAo:=λ_ _=>AP
def aAp(p:Aa):IT:=
 .ca 191 [S aWI] λa=>.Cj p 0 λ_ _ b=>.fa b 2 λ_ c=>.ca 217 [c,I 1,a] λd=>.A3 d (.Cj p 0 λ_ _ e=>.fa e 2 λ_ f=>.ca 165 [f,S []] λ_=>.Cj p 0 λ_ _ h=>.fa h 2 λ_ j=>.ca 89 [j,a] λ_=>.rr [.tuple []]) (.rr [.tuple []])
def iF:GM cx 158 aAp:=λ_=>AP
def aAq(p:Aa):IT:=
 .fa p 1 λ_ a=>.fl a 1 λ_ b=>.ca 206 [p,b] λc=>.A3 c (.fa p 1 λ_ d=>.fl d 1 λ_ e=>.ca 207 [p,e,S []] λ_=>.Cj p 0 λ_ _ f=>.fa f 3 λ_ h=>.ca 90 [h] λ_=>.rr [.tuple []]) (.rr [.tuple []])
def iG:GM cx 159 aAq:=λ_=>AP
def oE(p:Aa):IT:=
 .fa p 1 λ_ a=>.fl a 1 λ_ b=>.se [b,S [112]] λc=>.A3 c (.Cj p 0 λ_ _ d=>.fa d 2 λ_ e=>.op (.CC 1) [b] λf=>.ca 217 [e,I 3,f] λh=>.nt [h] λj=>.A3 j (.op (.str .neq) [b,S [112]] λk=>.A3 k (.rr [.tuple []]) (.Cj p 0 λ_ m n=>.ca 71 [S [112]] λo=>.ld m λs=>.same n s (.ca 70 [n,o] λ_=>.ca 207 [p,b,b] λ_=>.rr [.tuple []]))) (.ca 207 [p,b,b] λ_=>.rr [.tuple []])) (.se [b,S [108,105]] λu=>.A3 u (.Cj p 0 λ_ _ w=>.fa w 2 λ_ y=>.op (.CC 1) [b] λz=>.ca 217 [y,I 2,z] λa0=>.nt [a0] λa1=>.A3 a1 (.op (.str .neq) [b,S [112]] λa2=>.A3 a2 (.rr [.tuple []]) (.Cj p 0 λ_ a5 a7=>.ca 71 [S [112]] λa8=>.ld a5 λb0=>.same a7 b0 (.ca 70 [a7,a8] λ_=>.ca 207 [p,b,b] λ_=>.rr [.tuple []]))) (.ca 207 [p,b,b] λ_=>.rr [.tuple []])) (.Cj p 0 λ_ _ b1=>.fa b1 2 λ_ b2=>.op (.CC 1) [b] λb3=>.ca 217 [b2,I 1,b3] λb4=>.nt [b4] λb5=>.A3 b5 (.op (.str .neq) [b,S [112]] λb6=>.A3 b6 (.rr [.tuple []]) (.Cj p 0 λ_ b7 b8=>.ca 71 [S [112]] λb9=>.ld b7 λc0=>.same b8 c0 (.ca 70 [b8,b9] λ_=>.ca 207 [p,b,b] λ_=>.rr [.tuple []]))) (.ca 207 [p,b,b] λ_=>.rr [.tuple []])))
def PF:GM cx 160 oE:=λ_=>AP
def qc(p:Aa):IT:=
 .Cj p 0 λ_ _ a=>.ca 88 [a] λb=>.A3 b (.ca 155 [p] λ_=>.rr [.tuple []]) (.Cj p 0 λ_ _ c=>.Cj c 8 λ_ _ d=>.Cj p 0 λ_ _ e=>.fa e 8 λ_ f=>.store 1 f i0 (.iq [d,I 0] λh=>.A3 h (.Cj p 0 λ_ _ j=>.fa j 2 λ_ k=>.ca 218 [k,I 1,d] λm=>.A3 m (.Cj p 0 λ_ _ n=>.fa n 2 λ_ o=>.ca 165 [o,S []] λ_=>.Cj p 0 λ_ _ s=>.fa s 2 λ_ u=>.ca 127 [u,d] λ_=>.rr [.tuple []]) (.rr [.tuple []])) (.rr [.tuple []])))
def TS:GM cx 161 qc:=λ_=>AP
def aEx(p:Aa):IT:=
 .ca 71 [S [98,114]] λa=>.fa p 1 λ_ b=>.store 12 b a (.ca 136 [p] λ_=>.rr [.tuple []])
def zU:GM cx 162 aEx:=λ_=>AP
def aEy(p q:Aa):IT:=
 .il [q,I 0] λa=>.A3 a (.op (.C7 [I 0,I 0,S [],ff] []) [] λb=>.cells 4 b λc=>.rr [a4 c]) (.ca 121 [p] λd=>.ih [q,d] λe=>.A3 e (.op (.C7 [I 0,I 0,S [],ff] []) [] λf=>.cells 4 f λh=>.rr [a4 h]) (.Cj p 0 λ_ _ j=>.ea 4 [j,q] λk=>.load (some 4) k λm=>.cells 4 m λn=>.rr [a4 n]))
def zV:F7 cx 163 aEy:=λ_ _=>AP
def t164(p q:Aa):IT:=
 .cells 4 p λa=>.ie [g a 1,I 1] λb=>.A3 b (.ca 190 [q,g a 2] λc=>.rr [c]) (.rr [ff])
def zW:F7 cx 164 t164:=λ_ _=>AP
def aEz(p q:Aa):IT:=
 .cells 1 q λa=>.ca 168 [p,.func (.func 219) [] [.B9 [g a 0]],.func (.func 169) [] []] λb=>.rr [b]
def zX:F7 cx 165 aEz:=λ_ _=>AP
def aAr(p q:Aa):IT:=
 .cells 1 q λa=>.ca 151 [p,g a 0] λb=>.il [b,I 0] λc=>.A3 c (.rr [I 0]) (.ca 168 [p,.func (.func 169) [] [],.func (.func 221) [] [.B9 [g a 0]]] λd=>.rr [d])
def iH:F7 cx 166 aAr:=λ_ _=>AP
def aEA(p q:Aa):IT:=
 .ie [p,I 3] λa=>.A3 a (.se [q,S aWM] λb=>.A3 b (.rr [tt]) (.BH 222 [p,q] λc=>.rr [c])) (.ie [p,I 2] λd=>.A3 d (.se [q,S aYf] λe=>.A3 e (.rr [tt]) (.se [q,S aXa] λf=>.A3 f (.rr [tt]) (.se [q,S aWO] λh=>.rr [h]))) (.ie [p,I 1] λj=>.A3 j (swv q (.rr [tt]) (.rr [ff]) Tu) (.rr [ff])))
def zY:F7 cx 167 aEA:=λ_ _=>AP
def aEB(p q r:Aa):IT:=
 .loop 2 [I 0] (λa=>.ca 121 [p] λb=>.ig [b,I 1] λc=>.A3 c (.ca 122 [p] λd=>.EG q [d] λe=>.nt [e] λf=>.A3 f (.ia [g a 0,I 1] λh=>.ca 76 [p] λj=>.EG r [j] λk=>.A3 k (.rx 0 [h]) (.rn [h])) (.rx 0 [g a 0])) (.rx 0 [g a 0])) (lx 0 (λm=>.rr [g m 0]) λm=>.rr [I 0])
def zZ:SY cx 168 aEB:=λ_ _ _=>AP
def aEC(p:Aa):IT:=
 .cells 4 p λ_=>.rr [ff]
def ae:GM cx 169 aEC:=λ_=>AP
def aED(p q:Aa):IT:=
 .cells 4 p λa=>.ld q λb=>.ca 171 [a4 a,b] λc=>.rr [c]
def af:F7 cx 170 aED:=λ_ _=>AP
def aEE(p q:Aa):IT:=
 .cells 4 p λa=>.ie [g a 1,I 1] λb=>.A3 b (.ca 190 [q,g a 2] λc=>.rr [c]) (.rr [ff])
def ag:F7 cx 171 aEE:=λ_ _=>AP
def aEF(p:Aa):IT:=
 .Cj p 0 λ_ _ a=>.ln [a] λb=>.loop 2 [b] (λc=>.ig [g c 0,I 0] λd=>.A3 d (.Cj p 0 λ_ _ e=>.ib [g c 0,I 1] λf=>.ea 3 [e,f] λh=>.fl h 0 λ_ j=>.iq [j,I 0] λk=>.A3 k (.ib [g c 0,I 1] λm=>.rn [m]) (.rx 0 [g c 0])) (.rx 0 [g c 0])) (lx 0 (λn=>.rr [g n 0]) λn=>.rr [I 0])
def ah:GM cx 172 aEF:=λ_=>AP
def aEG(p q r:Aa):IT:=
 .cells 4 q λa=>.ca 223 [] λb=>.ln [b] λc=>.loop 2 [I 0,ff,I 0] (λd=>.il [g d 2,c] λe=>.A3 e (.ea 2 [b,g d 2] λf=>.load (some 2) f λh=>.cells 2 h λj=>.op (.CC 1) [g j 0] λk=>.ca 164 [a4 a,k] λm=>.A3 m (.rr [g j 1,tt,g d 2]) (.ia [g d 2,I 1] λn=>.rn [g d 0,g d 1,n])) (.rx 0 [g d 0,g d 1,g d 2])) (lx 0 (λo=>.op (.CC 1) [S aW6] λs=>.ca 164 [a4 a,s] λu=>.A3 u (.ca 224 [p,r] λw=>.rr [.tuple [w,tt]]) (.GK 200009 (.op (.CC 1) [S [116,100],S [116,104]] λy=>.ca 164 [a4 a,y] λz=>.A3 z (.ig [r,I 0] λa0=>.rn [a0]) (.rn [ff])) (λx a1=>match x with| .normal=>.A3 (g a1 0) (.rr [.tuple [I 15,tt]]) (.op (.CC 1) [S aWw] λa2=>.ca 164 [a4 a,a2] λa5=>.A3 a5 (.Cj p 6 λ_ _ a7=>.ln [a7] λa8=>.ig [a8,I 0] λb0=>.A3 b0 (.Cj p 6 λ_ _ b1=>.ib [a8,I 1] λb2=>.ea 1 [b1,b2] λb3=>.ld b3 λb4=>.rr [.tuple [b4,tt]]) (.rr [.tuple [I 7,tt]])) (.GK 200016 (.op (.CC 1) [S aWy] λb5=>.ca 164 [a4 a,b5] λb6=>.A3 b6 (.ig [r,I 0] λb7=>.rn [b7]) (.rn [ff])) (λx b8=>match x with| .normal=>.A3 (g b8 0) (.rr [.tuple [I 4,tt]]) (.op (.CC 1) [S aWu] λb9=>.ca 164 [a4 a,b9] λc1=>.A3 c1 (.Cj p 7 λ_ _ c2=>.ie [c2,I 0] λc4=>.A3 c4 (.rr [.tuple [I 3,tt]]) (.rr [.tuple [I 6,tt]])) (.ie [r,I 0] λc5=>.rr [.tuple [I 7,c5]]))| .exit i=>if i=2 then .ie [r,I 0] λc6=>.rr [.tuple [I 7,c6]] else .fail| .ret=>.rr [.tuple [g o 0,g o 1]])))| .exit i=>if i=2 then .ie [r,I 0] λc8=>.rr [.tuple [I 7,c8]] else .fail| .ret=>.rr [.tuple [g o 0,g o 1]]))) λo=>.rr [.tuple [g o 0,g o 1]])
def aj:SY cx 173 aEG:=λ_ _ _=>AP
def aAs(p:Aa):IT:=
 .cells 1 p λa=>.rr [.func (.func 232) [] [.B9 [g a 0]]]
def iI:GM cx 178 aAs:=λ_=>AP
def Î(p q:Aa):IT:=
 .cells 1 p λa=>.cells 1 q λb=>.rr [.func (.func 233) [] [.B9 [g a 0],.B9 [g b 0]]]
def WS:F7 cx 179 Î:=λ_ _=>AP
def aEH(p:Aa):IT:=
 .ca 102 [p] λa=>.nt [a] λb=>.A3 b (.op (.C7 [I 0,I 0,S [],ff] []) [] λc=>.cells 4 c λd=>.rr [a4 d]) (.fa p 2 λ_ e=>.ca 122 [e] λf=>.cells 4 f λh=>.rr [a4 h])
def ak:GM cx 180 aEH:=λ_=>AP
def aEI(p:Aa):IT:=
 .fa p 2 λ_ a=>.fa p 2 λ_ b=>.ca 124 [a,S aWL] λc=>.ca 124 [b,S aWw] λd=>.ig [d,c] λe=>.A3 e (.fa p 2 λ_ f=>.ca 163 [f,d] λh=>.op (.part 0 none) [h] λj=>.rr [.tuple [j,I 0]]) (.il [c,I 0] λk=>.A3 k (.fa p 2 λ_ m=>.ca 163 [m,I 0] λn=>.op (.part 0 none) [n] λo=>.rr [.tuple [o,I 0]]) (.fa p 2 λ_ s=>.ca 163 [s,c] λu=>.op (.part 0 none) [u] λw=>.Cj p 0 λ_ _ y=>.ca 234 [y,w] λz=>.iq [z,I 0] λa0=>.A3 a0 (.rr [.tuple [z,w]]) (.fa p 2 λ_ a1=>.ib [c,I 1] λa2=>.op (.Mr true) [a2,I 0] λa5=>.ca 163 [a1,a5] λa7=>.op (.part 0 none) [a7] λa8=>.rr [.tuple [a8,I 0]])))
def al:GM cx 181 aEI:=λ_=>AP
def aEJ(p q:Aa):IT:=
 .ca 235 [p,q] λa=>.ih [a,I 0] λb=>.rr [b]
def ao:F7 cx 182 aEJ:=λ_ _=>AP
def aEK(p q:Aa):IT:=
 .ld q λa=>.ca 104 [a,p] λb=>.op (.part 0 none) [b] λc=>.ie [c,I 4] λd=>.rr [d]
def aq:F7 cx 183 aEK:=λ_ _=>AP
def aEL(p q r:Aa):IT:=
 .ln [p] λa=>.mem (.qO 1) [p,q,r,a] λ_=>.ie [q,r] λb=>.A3 b (.rr [p]) (.ln [p] λc=>.op (.Rb 1 false false true) [p,q] λd=>.op (.Rb 1 false true false) [p,r] λe=>.GL 1 8 d e λf=>.ln [f] λh=>.mem (.k_ 1 true true) [f,h,c] λj=>.mem (.clear 1 [I 0]) [j] λ_=>.rr [f])
def au:SY cx 185 aEL:=λ_ _ _=>AP
def aEM(p:Aa):IT:=
 .Fi p λa=>.ln [a] λb=>.loop 3 [I 0] (λc=>.il [g c 0,b] λd=>.A3 d (.ea 1 [a,g c 0] λe=>.ld e λf=>.op (.conv .i32) [f] λh=>.BH 238 [h] λj=>.A3 j (.ib [f,.int .u8 65] λk=>.ia [k,.int .u8 97] λm=>.ea 1 [a,g c 0] λn=>.store 1 n m (.ia [g c 0,I 1] λo=>.rn [o])) (.ia [g c 0,I 1] λs=>.rn [s])) (.rx 0 [g c 0])) (lx 0 (λu=>.VY a λw=>.op .ZM [w] λy=>.rr [y]) λu=>.rr [S []])
def aw:GM cx 188 aEM:=λ_=>AP
def aEN(p q:Aa):IT:=
 .ln [p] λa=>.loop 2 [I 0,I 0] (λb=>.il [g b 1,a] λc=>.A3 c (.ea 1 [p,g b 1] λd=>.ld d λe=>.EG q [e] λf=>.A3 f (.rr [g b 1,g b 1]) (.ia [g b 1,I 1] λh=>.rn [g b 0,h])) (.rx 0 [g b 0,g b 1])) (lx 0 (λj=>.rr [I (-1)]) λj=>.rr [g j 0])
def ax:F7 cx 189 aEN:=λ_ _=>AP
def aEO(p q:Aa):IT:=
 .ca 239 [p,q] λa=>.ih [a,I 0] λb=>.rr [b]
def ay:F7 cx 190 aEO:=λ_ _=>AP
def aEP(p:Aa):IT:=
 .ca 240 [p] λa=>.rr [a]
def az:GM cx 191 aEP:=λ_=>AP
def aAt(p q r u:Aa):IT:=
 .cells 12 r λa=>.ca 103 [p,I 0] λb=>.op (.ext 0) [b] λc=>.op (.ext 1) [b] λd=>.EG q [GA a,u,c] λe=>.cells 4 e λf=>.iq [g f 0,I 0] λh=>.A3 h (.ca 106 [p,g f 0,c,d] λ_=>.fa p 2 λ_ j=>.ca 126 [j,a4 f] λ_=>.rr [g f 0]) (.rr [g f 0])
def iJ:Tq4 cx 192 aAt:=λ_ _ _ _=>AP
def aAu(p q r u:Aa):IT:=
 .cells 12 q λa=>.GK 200001 (.ca 102 [p] λb=>.nt [b] λc=>.A3 c (.rn [tt]) (.il [r,I 0] λd=>.A3 d (.rn [tt]) (.ig [r,I 7] λe=>.rn [e]))) (nx (λf=>.A3 (g f 0) (.op (.C7 [I 0,I 0,S [],ff] []) [] λh=>.cells 4 h λj=>.rr [a4 j]) (.ca 241 [r,g a 8] λk=>.ie [r,I 2] λm=>.GK 100032 (.A3 m (.BH 242 [g a 1] λn=>.rn [n]) (.rn [g a 1])) (nx (λo=>.Cj p 0 λ_ s w=>.ca 244 [p,u] λy=>.ld s λz=>.same w z (.ca 243 [w,y,r,g o 0,k] λa0=>.op (.ext 0) [a0] λa1=>.op (.ext 1) [a0] λa2=>.iq [a2,I 0] λa5=>.A3 a5 (.op (.C7 [I 0,I 0,S [],ff] []) [] λa7=>.cells 4 a7 λa8=>.rr [a4 a8]) (.ca 245 [r,g o 0,k] λb0=>.op (.C7 [I 0,I 0,S [],ff] [(0,1),(1,1),(2,1),(3,1)]) [a1,r,g o 0,b0] λb1=>.cells 4 b1 λb2=>.rr [a4 b2]))) λo=>.rr [.agg [I 0,I 0,S [],ff]]))) λf=>.rr [.agg [I 0,I 0,S [],ff]])
def iK:Tq4 cx 193 aAu:=λ_ _ _ _=>AP
def aAv(p q:Aa):IT:=
 .op (.conv .u32) [q] λa=>.ik [a,.int .u32 2047] λb=>.A3 b (.op (.int .shr) [q,.int .u64 6] λc=>.op (.conv .u8) [c] λd=>.op (.int .or) [.int .u8 192,d] λe=>.op (.conv .u8) [q] λf=>.op (.int .and) [f,.int .u8 63] λh=>.op (.int .or) [.int .u8 128,h] λj=>.op (.CC 1) [e,j] λk=>.GL 1 1 p k λm=>.rr [m]) (.il [a,.int .u32 55296] λn=>.A3 n (.op (.int .shr) [q,.int .u64 12] λo=>.op (.conv .u8) [o] λs=>.op (.int .or) [.int .u8 224,s] λu=>.op (.int .shr) [q,.int .u64 6] λw=>.op (.conv .u8) [w] λy=>.op (.int .and) [y,.int .u8 63] λz=>.op (.int .or) [.int .u8 128,z] λa0=>.op (.conv .u8) [q] λa1=>.op (.int .and) [a1,.int .u8 63] λa2=>.op (.int .or) [.int .u8 128,a2] λa5=>.op (.CC 1) [u,a0,a5] λa7=>.GL 1 1 p a7 λa8=>.rr [a8]) (.il [.int .u32 57343,a] λb0=>.A3 b0 (.ik [a,.int .u32 65535] λb1=>.A3 b1 (.op (.int .shr) [q,.int .u64 12] λb2=>.op (.conv .u8) [b2] λb3=>.op (.int .or) [.int .u8 224,b3] λb4=>.op (.int .shr) [q,.int .u64 6] λb5=>.op (.conv .u8) [b5] λb6=>.op (.int .and) [b6,.int .u8 63] λb7=>.op (.int .or) [.int .u8 128,b7] λb8=>.op (.conv .u8) [q] λb9=>.op (.int .and) [b9,.int .u8 63] λc0=>.op (.int .or) [.int .u8 128,c0] λc1=>.op (.CC 1) [b4,b8,c1] λc2=>.GL 1 1 p c2 λc3=>.rr [c3]) (.ig [a,.int .u32 65535] λc4=>.A3 c4 (.ik [a,.int .u32 1114111] λc5=>.A3 c5 (.op (.int .shr) [q,.int .u64 18] λc6=>.op (.conv .u8) [c6] λc7=>.op (.int .or) [.int .u8 240,c7] λc8=>.op (.int .shr) [q,.int .u64 12] λc9=>.op (.conv .u8) [c9] λd0=>.op (.int .and) [d0,.int .u8 63] λd1=>.op (.int .or) [.int .u8 128,d1] λd2=>.op (.int .shr) [q,.int .u64 6] λd3=>.op (.conv .u8) [d3] λd4=>.op (.int .and) [d4,.int .u8 63] λd5=>.op (.int .or) [.int .u8 128,d5] λd6=>.op (.conv .u8) [q] λd7=>.op (.int .and) [d7,.int .u8 63] λd8=>.op (.int .or) [.int .u8 128,d8] λd9=>.op (.CC 1) [c8,d2,d6,d9] λe0=>.GL 1 1 p e0 λe1=>.rr [e1]) (.op (.CC 1) [.int .u8 239,.int .u8 191,.int .u8 189] λe2=>.GL 1 1 p e2 λe3=>.rr [e3])) (.op (.CC 1) [.int .u8 239,.int .u8 191,.int .u8 189] λe4=>.GL 1 1 p e4 λe5=>.rr [e5]))) (.ig [a,.int .u32 65535] λe6=>.A3 e6 (.ik [a,.int .u32 1114111] λe7=>.A3 e7 (.op (.int .shr) [q,.int .u64 18] λe8=>.op (.conv .u8) [e8] λe9=>.op (.int .or) [.int .u8 240,e9] λf0=>.op (.int .shr) [q,.int .u64 12] λf1=>.op (.conv .u8) [f1] λf2=>.op (.int .and) [f2,.int .u8 63] λf3=>.op (.int .or) [.int .u8 128,f3] λf4=>.op (.int .shr) [q,.int .u64 6] λf5=>.op (.conv .u8) [f5] λf6=>.op (.int .and) [f6,.int .u8 63] λf7=>.op (.int .or) [.int .u8 128,f7] λf8=>.op (.conv .u8) [q] λf9=>.op (.int .and) [f9,.int .u8 63] λh0=>.op (.int .or) [.int .u8 128,h0] λh1=>.op (.CC 1) [f0,f4,f8,h1] λh2=>.GL 1 1 p h2 λh3=>.rr [h3]) (.op (.CC 1) [.int .u8 239,.int .u8 191,.int .u8 189] λh4=>.GL 1 1 p h4 λh5=>.rr [h5])) (.op (.CC 1) [.int .u8 239,.int .u8 191,.int .u8 189] λh6=>.GL 1 1 p h6 λh7=>.rr [h7]))))
def iL:F7 cx 194 aAv:=λ_ _=>AP
def aEQ(p q:Aa):IT:=
 .ca 121 [p] λa=>.ib [a,I 1] λb=>.loop 2 [I 0,b] (λc=>.ih [g c 1,I 0] λd=>.A3 d (.Cj p 0 λ_ _ e=>.ea 4 [e,g c 1] λf=>.load (some 4) f λh=>.EG q [h] λj=>.A3 j (.rr [g c 1,g c 1]) (.ib [g c 1,I 1] λk=>.rn [g c 0,k])) (.rx 0 [g c 0,g c 1])) (lx 0 (λm=>.rr [I (-1)]) λm=>.rr [g m 0])
def a_:F7 cx 195 aEQ:=λ_ _=>AP
def aER(p q:Aa):IT:=
 .cells 4 p λa=>.ld q λb=>.op (.CC 1) [b] λc=>.ca 171 [a4 a,c] λd=>.rr [d]
def ba:F7 cx 196 aER:=λ_ _=>AP
def aES(p:Aa):IT:=
 .cells 4 p λa=>.iq [g a 1,I 1] λb=>.A3 b (.rr [tt]) (.BH 198 [g a 2] λc=>.nt [c] λd=>.rr [d])
def bb:GM cx 197 aES:=λ_=>AP
def aET(p:Aa):IT:=
 .se [p,S aWV] λa=>.A3 a (.rr [tt]) (.se [p,S aW3] λb=>.A3 b (.rr [tt]) (.se [p,S aXi] λc=>.A3 c (.rr [tt]) (.se [p,S [116,100]] λd=>.A3 d (.rr [tt]) (.se [p,S aXf] λe=>.A3 e (.rr [tt]) (.se [p,S [116,104]] λf=>.A3 f (.rr [tt]) (.se [p,S aXj] λh=>.A3 h (.rr [tt]) (.se [p,S [116,114]] λj=>.A3 j (.rr [tt]) (.BH 220 [p] λk=>.rr [k]))))))))
def bc:GM cx 198 aET:=λ_=>AP
def aEU(p q r:Aa):IT:=
 .cells 4 q λa=>.op (.Rb 4 false false true) [p,r] λb=>.op (.append 4 40) [.slnil,b] λc=>.op (.CC 4) [a4 a] λd=>.op (.append 4 40) [c,d] λe=>.op (.Rb 4 false true false) [p,r] λf=>.op (.append 4 40) [e,f] λh=>.rr [h]
def bd:SY cx 199 aEU:=λ_ _ _=>AP
def aEV(p q:Aa):IT:=
 .op (.Rb 4 false false true) [p,q] λa=>.op (.append 4 40) [.slnil,a] λb=>.ia [q,I 1] λc=>.op (.Rb 4 false true false) [p,c] λd=>.op (.append 4 40) [b,d] λe=>.rr [e]
def be:F7 cx 200 aEV:=λ_ _=>AP
def aEW(p q:Aa):IT:=
 .ld q λa=>.EG a [p] λ_=>.rr [ff]
def bg:F7 cx 201 aEW:=λ_ _=>AP
def aAw(p:Aa):IT:=
 .ca 102 [p] λa=>.A3 a (.fa p 2 λ_ b=>.op (.CC 1) [S [112]] λc=>.ca 217 [b,I 3,c] λd=>.A3 d (.fa p 2 λ_ e=>.ca 165 [e,S [112]] λ_=>.fa p 2 λ_ f=>.op (.CC 1) [S [112]] λh=>.ca 89 [f,h] λ_=>.rr [.tuple []]) (.rr [.tuple []])) (.rr [.tuple []])
def iM:GM cx 202 aAw:=λ_=>AP
def aEX(p:Aa):IT:=
 .lt [p] λa=>.ie [a,I 2] λb=>.A3 b (.op .VX [p,I 0] λc=>.ie [c,.int .u8 104] λd=>.A3 d (.op .VX [p,I 1] λe=>.ih [e,.int .u8 49] λf=>.A3 f (.op .VX [p,I 1] λh=>.ik [h,.int .u8 54] λj=>.rr [j]) (.rr [ff])) (.rr [ff])) (.rr [ff])
def bj:GM cx 203 aEX:=λ_=>AP
def aEY(p q:Aa):IT:=
 .cells 12 q λa=>.ca 70 [p,GA a] λb=>.iq [b,I 0] λc=>.A3 c (.fa p 3 λ_ d=>.op (.C7 [I 0,S [],.slnil] [(0,1),(1,1),(2,1)]) [b,g a 1,g a 8] λe=>.ca 246 [d,e] λ_=>.rr [b]) (.rr [b])
def bk:F7 cx 204 aEY:=λ_ _=>AP
def aEZ(p:Aa):IT:=
 .cells 12 p λa=>.ln [g a 8] λb=>.loop 2 [ff,I 0] (λc=>.il [g c 1,b] λd=>.A3 d (.ea 3 [g a 8,g c 1] λe=>.load (some 3) e λf=>.cells 3 f λh=>.se [g h 1,S aXD] λj=>.A3 j (.BH 113 [g h 2,S aXr] λk=>.rr [k,g c 1]) (.ia [g c 1,I 1] λm=>.rn [g c 0,m])) (.rx 0 [g c 0,g c 1])) (lx 0 (λn=>.rr [ff]) λn=>.rr [g n 0])
def bl:GM cx 205 aEZ:=λ_=>AP
def aE0(p q:Aa):IT:=
 .Cj p 0 λ_ _ a=>.fa a 2 λ_ b=>.op (.CC 1) [q] λc=>.ca 217 [b,I 1,c] λd=>.rr [d]
def bm:F7 cx 206 aE0:=λ_ _=>AP
def aE1(p q r:Aa):IT:=
 .Cj p 0 λ_ _ a=>.fa a 2 λ_ b=>.ca 165 [b,r] λ_=>.Cj p 0 λ_ _ c=>.fa c 2 λ_ d=>.op (.CC 1) [q] λe=>.ca 89 [d,e] λ_=>.rr [.tuple []]
def bn:SY cx 207 aE1:=λ_ _ _=>AP
def aE2(p q:Aa):IT:=
 .cells 4 p λa=>.ie [g a 1,I 1] λb=>.A3 b (.se [g a 2,q] λc=>.rr [c]) (.rr [ff])
def bp:F7 cx 208 aE2:=λ_ _=>AP
def aAx(p q r:Aa):IT:=
 .cells 12 q λa=>.ca 102 [p] λb=>.nt [b] λc=>.A3 c (.rr [.tuple []]) (.ca 104 [p,r] λd=>.op (.part 0 none) [d] λe=>.iq [e,I 4] λf=>.A3 f (.rr [.tuple []]) (.ca 104 [p,r] λh=>.op (.part 6 none) [h] λj=>.ln [g a 8] λk=>.loop 4 [j,I 0] (λm=>.il [g m 1,k] λn=>.A3 n (.ea 3 [g a 8,g m 1] λo=>.load (some 3) o λs=>.cells 3 s λu=>.ca 247 [g m 0,.func (.func 248) [] [.B9 [g u 0,g u 1,g u 2]]] λw=>.nt [w] λy=>.A3 y (.fl (.B9 [g u 0,g u 1,g u 2]) 1 λ_ z=>.fl (.B9 [g u 0,g u 1,g u 2]) 2 λ_ a0=>.op (.C7 [I 0,S [],S []] [(1,1),(2,1)]) [z,a0] λa1=>.op (.CC 3) [a1] λa2=>.GL 3 40 (g m 0) a2 λa5=>.ia [g m 1,I 1] λa7=>.rn [a5,a7]) (.ia [g m 1,I 1] λa8=>.rn [g m 0,a8])) (.rx 0 [g m 0,g m 1])) (lx 0 (λb0=>.Cj p 0 λ_ _ b1=>.ca 249 [b1,r,g b0 0] λ_=>.rr [.tuple []]) λb0=>.rr [.tuple []])))
def iN:SY cx 209 aAx:=λ_ _ _=>AP
def aE3(p:Aa):IT:=
 .Cj p 0 λ_ _ a=>.fa a 2 λ_ b=>.ca 163 [b,I 1] λc=>.cells 4 c λd=>.Cj p 0 λ_ _ e=>.fa e 2 λ_ f=>.ca 121 [f] λh=>.ih [h,I 2] λj=>.A3 j (.ca 208 [a4 d,S aWz] λk=>.rr [.tuple [g d 0,k]]) (.rr [.tuple [g d 0,ff]])
def bq:GM cx 210 aE3:=λ_=>AP
def aE4(p q:Aa):IT:=
 .op (.CC 1) [q] λa=>.ca 25 [p,a] λb=>.iq [b,I 0] λc=>.A3 c (.rr [b]) (.ca 110 [p,q] λ_=>.rr [I 0])
def br:F7 cx 211 aE4:=λ_ _=>AP
def aE5(p q:Aa):IT:=
 .op (.Wx false) [p,.ptr none] λa=>.A3 a (.rr [I (-1)]) (.Cj p 0 λ_ _ b=>.ln [b] λc=>.ib [c,I 1] λd=>.loop 4 [I 0,d] (λe=>.ih [g e 1,I 0] λf=>.A3 f (.Cj p 0 λ_ _ h=>.ea 3 [h,g e 1] λj=>.fl j 0 λ_ k=>.iq [k,I 0] λm=>.A3 m (.Cj p 0 λ_ _ n=>.ea 3 [n,g e 1] λo=>.fl o 1 λ_ s=>.se [s,q] λu=>.A3 u (.rr [g e 1,g e 1]) (.ib [g e 1,I 1] λw=>.rn [g e 0,w])) (.rx 0 [g e 0,g e 1])) (.rx 0 [g e 0,g e 1])) (lx 0 (λy=>.rr [I (-1)]) λy=>.rr [g y 0]))
def bu:F7 cx 212 aE5:=λ_ _=>AP
def aAy(p q:Aa):IT:=
 .ca 215 [p,q] λa=>.il [a,I 0] λb=>.A3 b (.rr [ff]) (.Cj p 0 λ_ _ c=>.ca 250 [c,a] λd=>.fa p 0 λ_ e=>.store 1 e d (.rr [tt]))
def iO:F7 cx 213 aAy:=λ_ _=>AP
end Go.Am
