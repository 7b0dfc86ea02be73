/- Lemmas -/
import Derived.Test.YtemolpggcmbieaaGreatDoorZ9
import Derived.Test.YtemolpggcmbieaaGreatDoorZ18
set_option linter.all false
namespace Go.Am
open Go
def jK(p:Aa):IT:=
 .BT p 0 λ_ _ a=>.ca 47 [a] λ_=>.BT p 0 λ_ _ b=>.fa p 1 λ_ c=>.load (some 12) c λd=>.ca 39 [b,d] λ_=>.BT p 0 λ_ _ e=>.fa e 14 λ_ f=>.store 1 f ff (.BT p 0 λ_ _ h=>.BT h 4 λ_ _ j=>.ie [j,I 9] λk=>.AH k (.BT p 0 λ_ _ m=>.fa m 4 λ_ n=>.store 1 n (I 17) (.rr [.tuple []])) (.ie [j,I 11] λo=>.AH o (.BT p 0 λ_ _ s=>.fa s 4 λ_ u=>.store 1 u (I 17) (.rr [.tuple []])) (.ie [j,I 13] λw=>.AH w (.BT p 0 λ_ _ y=>.fa y 4 λ_ z=>.store 1 z (I 17) (.rr [.tuple []])) (.ie [j,I 14] λa0=>.AH a0 (.BT p 0 λ_ _ a1=>.fa a1 4 λ_ a2=>.store 1 a2 (I 17) (.rr [.tuple []])) (.ie [j,I 15] λa5=>.AH a5 (.BT p 0 λ_ _ a7=>.fa a7 4 λ_ a8=>.store 1 a8 (I 17) (.rr [.tuple []])) (.BT p 0 λ_ _ b0=>.fa b0 4 λ_ b1=>.store 1 b1 (I 16) (.rr [.tuple []])))))))
def N9:FL cx 174 jK:=λ_=>AF
def Å(p:Aa):IT:=
 .ca 240 [p,S aTy] λa=>.nt [a] λb=>.AH b (.rr [ff]) (.BT p 0 λ_ _ c=>.fa c 4 λ_ d=>.store 1 d (I 19) (.fa p 1 λ_ e=>.fl e 1 λ_ f=>.se [f,S aTu] λh=>.rr [h]))
def cU:FL cx 175 Å:=λ_=>AF
def Æ(p:Aa):IT:=
 .fa p 1 λ_ a=>.fl a 1 λ_ b=>.ca 240 [p,b] λc=>.AH c (.fa p 1 λ_ d=>.fl d 1 λ_ e=>.ca 241 [p,e,S []] λ_=>.rr [.tuple []]) (.rr [.tuple []])
def cV:FL cx 176 Æ:=λ_=>AF
def aBy(p:Aa):IT:=
 .BT p 0 λ_ _ a=>.fa p 1 λ_ b=>.fl b 1 λ_ c=>.ca 49 [a,c] λ_=>.rr [.tuple []]
def u9:FL cx 177 aBy:=λ_=>AF
def Ç(p:Aa):IT:=
 .ca 235 [S aTG] λa=>.BT p 0 λ_ _ b=>.fa b 2 λ_ c=>.ca 111 [c,I 1,a] λd=>.AH d (.BT p 0 λ_ _ e=>.fa e 2 λ_ f=>.ca 112 [f,S []] λ_=>.BT p 0 λ_ _ h=>.fa h 2 λ_ j=>.ca 58 [j,a] λ_=>.rr [.tuple []]) (.rr [.tuple []])
def cW:FL cx 178 Ç:=λ_=>AF
def È(p:Aa):IT:=
 .fa p 1 λ_ a=>.fl a 1 λ_ b=>.ca 240 [p,b] λc=>.AH c (.fa p 1 λ_ d=>.fl d 1 λ_ e=>.ca 241 [p,e,S []] λ_=>.BT p 0 λ_ _ f=>.fa f 3 λ_ h=>.ca 57 [h] λ_=>.rr [.tuple []]) (.rr [.tuple []])
def cX:FL cx 179 È:=λ_=>AF
def jL(p:Aa):IT:=
 .fa p 1 λ_ a=>.fl a 1 λ_ b=>.se [b,S [112]] λc=>.AH c (.BT p 0 λ_ _ d=>.fa d 2 λ_ e=>.op (.Cl 1) [b] λf=>.ca 111 [e,I 3,f] λh=>.nt [h] λj=>.AH j (.op (.str .neq) [b,S [112]] λk=>.AH k (.rr [.tuple []]) (.BT p 0 λ_ m n=>.ca 70 [S [112]] λo=>.ld m λs=>.same n s (.ca 39 [n,o] λ_=>.ca 241 [p,b,b] λ_=>.rr [.tuple []]))) (.ca 241 [p,b,b] λ_=>.rr [.tuple []])) (.se [b,S [108,105]] λu=>.AH u (.BT p 0 λ_ _ w=>.fa w 2 λ_ y=>.op (.Cl 1) [b] λz=>.ca 111 [y,I 2,z] λa0=>.nt [a0] λa1=>.AH a1 (.op (.str .neq) [b,S [112]] λa2=>.AH a2 (.rr [.tuple []]) (.BT p 0 λ_ a5 a7=>.ca 70 [S [112]] λa8=>.ld a5 λb0=>.same a7 b0 (.ca 39 [a7,a8] λ_=>.ca 241 [p,b,b] λ_=>.rr [.tuple []]))) (.ca 241 [p,b,b] λ_=>.rr [.tuple []])) (.BT p 0 λ_ _ b1=>.fa b1 2 λ_ b2=>.op (.Cl 1) [b] λb3=>.ca 111 [b2,I 1,b3] λb4=>.nt [b4] λb5=>.AH b5 (.op (.str .neq) [b,S [112]] λb6=>.AH b6 (.rr [.tuple []]) (.BT p 0 λ_ b7 b8=>.ca 70 [S [112]] λb9=>.ld b7 λc0=>.same b8 c0 (.ca 39 [b8,b9] λ_=>.ca 241 [p,b,b] λ_=>.rr [.tuple []]))) (.ca 241 [p,b,b] λ_=>.rr [.tuple []])))
def Oa:FL cx 180 jL:=λ_=>AF
def dd(p:Aa):IT:=
 .BT p 0 λ_ _ a=>.ca 79 [a] λb=>.AH b (.ca 176 [p] λ_=>.rr [.tuple []]) (.BT p 0 λ_ _ c=>.BT c 8 λ_ _ d=>.BT p 0 λ_ _ e=>.fa e 8 λ_ f=>.store 1 f i0 (.iq [d,I 0] λh=>.AH h (.BT p 0 λ_ _ j=>.fa j 2 λ_ k=>.ca 211 [k,I 1,d] λm=>.AH m (.BT p 0 λ_ _ n=>.fa n 2 λ_ o=>.ca 112 [o,S []] λ_=>.BT p 0 λ_ _ s=>.fa s 2 λ_ u=>.ca 151 [u,d] λ_=>.rr [.tuple []]) (.rr [.tuple []])) (.rr [.tuple []])))
def Sp:FL cx 181 dd:=λ_=>AF
def aBz(p:Aa):IT:=
 .ca 70 [S [98,114]] λa=>.fa p 1 λ_ b=>.store 12 b a (.ca 160 [p] λ_=>.rr [.tuple []])
def vA:FL cx 182 aBz:=λ_=>AF
def aFG(p q:Aa):IT:=
 .ln [p] λa=>.ln [q] λb=>.iq [a,b] λc=>.AH c (.rr [ff]) (.ln [p] λd=>.loop 4 [ff,I 0] (λe=>.il [g e 1,d] λf=>.AH f (.ea 3 [p,g e 1] λh=>.load (some 3) h λj=>.ea 3 [q,g e 1] λk=>.load (some 3) k λm=>.op (.geq true [.i,.s,.s]) [j,m] λn=>.AH n (.rr [ff,g e 1]) (.ia [g e 1,I 1] λo=>.rn [g e 0,o])) (.rx 0 [g e 0,g e 1])) (lx 0 (λs=>.rr [tt]) λs=>.rr [g s 0]))
def É:ES cx 183 aFG:=λ_ _=>AF
def aBA(p q:Aa):IT:=
 .ca 253 [p,q] λa=>.ih [a,I 0] λb=>.rr [b]
def vB:ES cx 188 aBA:=λ_ _=>AF
def Ê(p q:Aa):IT:=
 .ca 92 [p,q] λa=>.nt [a] λb=>.AH b (.rr [.slnil]) (.ca 96 [p,q] λc=>.fa c 0 λ_ d=>.fl d 2 λ_ e=>.ca 254 [e] λf=>.rr [f])
def cY:ES cx 189 Ê:=λ_ _=>AF
def aBB(p q:Aa):IT:=
 .ld q λa=>.ca 105 [a,p] λb=>.op (.part 0 none) [b] λc=>.ie [c,I 4] λd=>.rr [d]
def vC:ES cx 190 aBB:=λ_ _=>AF
def aBC(p q r:Aa):IT:=
 .cells 4 q λa=>.op (.PQ 4 false false true) [p,r] λb=>.op (.append 4 40) [.slnil,b] λc=>.op (.Cl 4) [a4 a] λd=>.op (.append 4 40) [c,d] λe=>.op (.PQ 4 false true false) [p,r] λf=>.op (.append 4 40) [e,f] λh=>.rr [h]
def vD:Q3 cx 191 aBC:=λ_ _ _=>AF
def qx(p q:Aa):IT:=
 .ln [p] λa=>.loop 2 [I 0,I 0] (λb=>.il [g b 1,a] λc=>.AH c (.ea 3 [p,g b 1] λd=>.load (some 3) d λe=>.D4 q [e] λf=>.AH f (.rr [g b 1,g b 1]) (.ia [g b 1,I 1] λh=>.rn [g b 0,h])) (.rx 0 [g b 0,g b 1])) (lx 0 (λj=>.rr [I (-1)]) λj=>.rr [g j 0])
def Vu:ES cx 192 qx:=λ_ _=>AF
def aBD(p:Aa):IT:=
 .cells 3 p λa=>.ie [g a 0,I 0] λb=>.AH b (.se [g a 1,S aVb] λc=>.rr [c]) (.rr [ff])
def vE:FL cx 193 aBD:=λ_=>AF
def aBE(p q:Aa):IT:=
 .ca 255 [p,q] λa=>.ih [a,I 0] λb=>.rr [b]
def vF:ES cx 194 aBE:=λ_ _=>AF
def aBF(p:Aa):IT:=
 .fa p 0 λ_ a=>.load (some 13) a λb=>.cells 13 b λc=>.fa p 0 λ_ d=>.fl d 2 λ_ e=>.fa p 0 λ_ f=>.fl f 6 λh j=>.ca 254 [e] λk=>.ld h λm=>.same j m (.ca 100084 [j] λn=>.cells 1 k λo=>.cells 1 n λs=>.cells 13 (.agg [g c 0,g c 1,g o 0,g c 3,g c 4,g c 5,g s 0,g c 7,g c 8,g c 9,g c 10,g c 11,g c 12]) λu=>.rr [mz u])
def vG:FL cx 195 aBF:=λ_=>AF
def aBG(p q:Aa):IT:=
 .cells 3 p λa=>.cells 3 q λb=>.se [g a 1,g b 1] λc=>.AH c (.ln [g a 2] λd=>.ln [g b 2] λe=>.ie [d,e] λf=>.AH f (.D4 (.func (.func 256) [] []) [g a 2,g b 2] λh=>.AH h (.D4 (.func (.func 256) [] []) [g b 2,g a 2] λj=>.rr [j]) (.rr [ff])) (.rr [ff])) (.rr [ff])
def vH:ES cx 196 aBG:=λ_ _=>AF
def aBH(p q:Aa):IT:=
 .op (.PQ 3 false false true) [p,q] λa=>.op (.append 3 48) [.slnil,a] λb=>.ia [q,I 1] λc=>.op (.PQ 3 false true false) [p,c] λd=>.op (.append 3 48) [b,d] λe=>.rr [e]
def vI:ES cx 197 aBH:=λ_ _=>AF
def aBI(p:Aa):IT:=
 .cells 3 p λa=>.ca 84 [g a 2] λb=>.cells 1 b λc=>.cells 3 (.agg [g a 0,g a 1,g c 0]) λd=>.rr [a3 d]
def vJ:FL cx 198 aBI:=λ_=>AF
def aBJ(p:Aa):IT:=
 .fa p 2 λ_ a=>.fa p 2 λ_ b=>.ca 127 [a,S aTL] λc=>.ca 127 [b,S aTv] λd=>.ig [d,c] λe=>.AH e (.fa p 2 λ_ f=>.ca 117 [f,d] λh=>.op (.part 0 none) [h] λj=>.rr [.tuple [j,I 0]]) (.il [c,I 0] λk=>.AH k (.fa p 2 λ_ m=>.ca 117 [m,I 0] λn=>.op (.part 0 none) [n] λo=>.rr [.tuple [o,I 0]]) (.fa p 2 λ_ s=>.ca 117 [s,c] λu=>.op (.part 0 none) [u] λw=>.BT p 0 λ_ _ y=>.ca 259 [y,w] λz=>.iq [z,I 0] λa0=>.AH a0 (.rr [.tuple [z,w]]) (.fa p 2 λ_ a1=>.ib [c,I 1] λa2=>.op (.Ld true) [a2,I 0] λa5=>.ca 117 [a1,a5] λa7=>.op (.part 0 none) [a7] λa8=>.rr [.tuple [a8,I 0]])))
def vK:FL cx 199 aBJ:=λ_=>AF
def Ë(p q:Aa):IT:=
 .op (.conv .u32) [q] λa=>.ik [a,.int .u32 2047] λb=>.AH b (.op (.int .shr) [q,.int .u64 6] λc=>.op (.conv .u8) [c] λd=>.op (.int .or) [.int .u8 192,d] λe=>.op (.conv .u8) [q] λf=>.op (.int .and) [f,.int .u8 63] λh=>.op (.int .or) [.int .u8 128,h] λj=>.op (.Cl 1) [e,j] λk=>.FQ 1 1 p k λm=>.rr [m]) (.il [a,.int .u32 55296] λn=>.AH n (.op (.int .shr) [q,.int .u64 12] λo=>.op (.conv .u8) [o] λs=>.op (.int .or) [.int .u8 224,s] λu=>.op (.int .shr) [q,.int .u64 6] λw=>.op (.conv .u8) [w] λy=>.op (.int .and) [y,.int .u8 63] λz=>.op (.int .or) [.int .u8 128,z] λa0=>.op (.conv .u8) [q] λa1=>.op (.int .and) [a1,.int .u8 63] λa2=>.op (.int .or) [.int .u8 128,a2] λa5=>.op (.Cl 1) [u,a0,a5] λa7=>.FQ 1 1 p a7 λa8=>.rr [a8]) (.il [.int .u32 57343,a] λb0=>.AH b0 (.ik [a,.int .u32 65535] λb1=>.AH b1 (.op (.int .shr) [q,.int .u64 12] λb2=>.op (.conv .u8) [b2] λb3=>.op (.int .or) [.int .u8 224,b3] λb4=>.op (.int .shr) [q,.int .u64 6] λb5=>.op (.conv .u8) [b5] λb6=>.op (.int .and) [b6,.int .u8 63] λb7=>.op (.int .or) [.int .u8 128,b7] λb8=>.op (.conv .u8) [q] λb9=>.op (.int .and) [b9,.int .u8 63] λc0=>.op (.int .or) [.int .u8 128,c0] λc1=>.op (.Cl 1) [b4,b8,c1] λc2=>.FQ 1 1 p c2 λc3=>.rr [c3]) (.ig [a,.int .u32 65535] λc4=>.AH c4 (.ik [a,.int .u32 1114111] λc5=>.AH c5 (.op (.int .shr) [q,.int .u64 18] λc6=>.op (.conv .u8) [c6] λc7=>.op (.int .or) [.int .u8 240,c7] λc8=>.op (.int .shr) [q,.int .u64 12] λc9=>.op (.conv .u8) [c9] λd0=>.op (.int .and) [d0,.int .u8 63] λd1=>.op (.int .or) [.int .u8 128,d1] λd2=>.op (.int .shr) [q,.int .u64 6] λd3=>.op (.conv .u8) [d3] λd4=>.op (.int .and) [d4,.int .u8 63] λd5=>.op (.int .or) [.int .u8 128,d5] λd6=>.op (.conv .u8) [q] λd7=>.op (.int .and) [d7,.int .u8 63] λd8=>.op (.int .or) [.int .u8 128,d8] λd9=>.op (.Cl 1) [c8,d2,d6,d9] λe0=>.FQ 1 1 p e0 λe1=>.rr [e1]) (.op (.Cl 1) [.int .u8 239,.int .u8 191,.int .u8 189] λe2=>.FQ 1 1 p e2 λe3=>.rr [e3])) (.op (.Cl 1) [.int .u8 239,.int .u8 191,.int .u8 189] λe4=>.FQ 1 1 p e4 λe5=>.rr [e5]))) (.ig [a,.int .u32 65535] λe6=>.AH e6 (.ik [a,.int .u32 1114111] λe7=>.AH e7 (.op (.int .shr) [q,.int .u64 18] λe8=>.op (.conv .u8) [e8] λe9=>.op (.int .or) [.int .u8 240,e9] λf0=>.op (.int .shr) [q,.int .u64 12] λf1=>.op (.conv .u8) [f1] λf2=>.op (.int .and) [f2,.int .u8 63] λf3=>.op (.int .or) [.int .u8 128,f3] λf4=>.op (.int .shr) [q,.int .u64 6] λf5=>.op (.conv .u8) [f5] λf6=>.op (.int .and) [f6,.int .u8 63] λf7=>.op (.int .or) [.int .u8 128,f7] λf8=>.op (.conv .u8) [q] λf9=>.op (.int .and) [f9,.int .u8 63] λh0=>.op (.int .or) [.int .u8 128,h0] λh1=>.op (.Cl 1) [f0,f4,f8,h1] λh2=>.FQ 1 1 p h2 λh3=>.rr [h3]) (.op (.Cl 1) [.int .u8 239,.int .u8 191,.int .u8 189] λh4=>.FQ 1 1 p h4 λh5=>.rr [h5])) (.op (.Cl 1) [.int .u8 239,.int .u8 191,.int .u8 189] λh6=>.FQ 1 1 p h6 λh7=>.rr [h7]))))
def cZ:ES cx 200 Ë:=λ_ _=>AF
def aBK(p q r:Aa):IT:=
 .cells 1 r λa=>.ca 260 [q] λb=>.cells 1 b λc=>.ca 205 [p,.func (.func 261) [] [.BW [g a 0],.BW [g c 0]]] λd=>.ih [d,I 0] λe=>.AH e (.ld (.BW [g a 0]) λf=>.BT p 0 λ_ _ h=>.ea 4 [h,d] λj=>.load (some 4) j λk=>.D4 f [k] λm=>.rr [m]) (.rr [ff])
def vL:Q3 cx 201 aBK:=λ_ _ _=>AF
def aBL(p q:Aa):IT:=
 .cells 4 p λa=>.ld q λb=>.ca 135 [a4 a,b] λc=>.rr [c]
def vM:ES cx 202 aBL:=λ_ _=>AF
def aBM(p q:Aa):IT:=
 .cells 4 p λa=>.iq [g a 1,I 1] λb=>.AH b (.rr [tt]) (.BG 204 [g a 2] λc=>.nt [c] λd=>.AH d (.rr [tt]) (.ld q λe=>.se [g a 2,e] λf=>.rr [f]))
def vN:ES cx 203 aBM:=λ_ _=>AF
def aBN(p:Aa):IT:=
 .se [p,S [100,100]] λa=>.AH a (.rr [tt]) (.se [p,S [100,116]] λb=>.AH b (.rr [tt]) (.se [p,S [108,105]] λc=>.AH c (.rr [tt]) (.se [p,S aT6] λd=>.AH d (.rr [tt]) (.se [p,S aTO] λe=>.AH e (.rr [tt]) (.se [p,S [112]] λf=>.AH f (.rr [tt]) (.se [p,S [114,98]] λh=>.AH h (.rr [tt]) (.se [p,S [114,112]] λj=>.AH j (.rr [tt]) (.se [p,S [114,116]] λk=>.AH k (.rr [tt]) (.se [p,S aUI] λm=>.AH m (.rr [tt]) (.rr [ff]))))))))))
def vO:FL cx 204 aBN:=λ_=>AF
def aBO(p q:Aa):IT:=
 .ca 116 [p] λa=>.ib [a,I 1] λb=>.loop 2 [I 0,b] (λc=>.ih [g c 1,I 0] λd=>.AH d (.BT p 0 λ_ _ e=>.ea 4 [e,g c 1] λf=>.load (some 4) f λh=>.D4 q [h] λj=>.AH j (.rr [g c 1,g c 1]) (.ib [g c 1,I 1] λk=>.rn [g c 0,k])) (.rx 0 [g c 0,g c 1])) (lx 0 (λm=>.rr [I (-1)]) λm=>.rr [g m 0])
def vP:ES cx 205 aBO:=λ_ _=>AF
def aBP(p q:Aa):IT:=
 .cells 4 p λa=>.ld q λb=>.ie [g a 0,b] λc=>.rr [c]
def vQ:ES cx 206 aBP:=λ_ _=>AF
def aBQ(p q:Aa):IT:=
 .cells 4 p λa=>.ld q λb=>.ie [g a 0,b] λc=>.rr [c]
def vR:ES cx 207 aBQ:=λ_ _=>AF
def aBR(p q:Aa):IT:=
 .ie [p,I 3] λa=>.AH a (.se [q,S [109,105]] λb=>.AH b (.rr [tt]) (.se [q,S [109,110]] λc=>.AH c (.rr [tt]) (.se [q,S [109,111]] λd=>.AH d (.rr [tt]) (.se [q,S [109,115]] λe=>.AH e (.rr [tt]) (.se [q,S [109,116,101,120,116]] λf=>.rr [f]))))) (.rr [ff])
def vS:ES cx 208 aBR:=λ_ _=>AF
def aBS(p q:Aa):IT:=
 .op (.Ru false) [p,.ptr none] λa=>.AH a (.rr [I (-1)]) (.BT p 0 λ_ _ b=>.ln [b] λc=>.ib [c,I 1] λd=>.loop 4 [I 0,d] (λe=>.ih [g e 1,I 0] λf=>.AH f (.BT p 0 λ_ _ h=>.ea 3 [h,g e 1] λj=>.fl j 0 λ_ k=>.iq [k,I 0] λm=>.AH m (.BT p 0 λ_ _ n=>.ea 3 [n,g e 1] λo=>.fl o 1 λ_ s=>.se [s,q] λu=>.AH u (.rr [g e 1,g e 1]) (.ib [g e 1,I 1] λw=>.rn [g e 0,w])) (.rx 0 [g e 0,g e 1])) (.rx 0 [g e 0,g e 1])) (lx 0 (λy=>.rr [I (-1)]) λy=>.rr [g y 0]))
def vT:ES cx 209 aBS:=λ_ _=>AF
def aBT(p q r:Aa):IT:=
 .fa q 3 λ_ a=>.fl a 0 λ_ b=>.ca 114 [b] λc=>.ia [r,I 1] λd=>.ca 262 [c,r,d] λe=>.fa q 3 λ_ f=>.op (.Fg 0) [f] λh=>.store 1 h e (.BT p 3 λ_ _ j=>.il [r,j] λk=>.AH k (.BT p 3 λ_ _ m=>.ib [m,I 1] λn=>.fa p 3 λ_ o=>.store 1 o n (.BT p 4 λ_ _ s=>.il [r,s] λu=>.AH u (.BT p 4 λ_ _ w=>.ib [w,I 1] λy=>.fa p 4 λ_ z=>.store 1 z y (.H6 3 q (.rr [.tuple []]))) (.H6 3 q (.rr [.tuple []])))) (.BT p 4 λ_ _ a0=>.il [r,a0] λa1=>.AH a1 (.BT p 4 λ_ _ a2=>.ib [a2,I 1] λa5=>.fa p 4 λ_ a7=>.store 1 a7 a5 (.H6 3 q (.rr [.tuple []]))) (.H6 3 q (.rr [.tuple []]))))
def vU:Q3 cx 210 aBT:=λ_ _ _=>AF
def aBU(p q r:Aa):IT:=
 .cells 1 r λa=>.ca 201 [p,q,.func (.func 263) [] [.BW [g a 0]]] λb=>.rr [b]
def vV:Q3 cx 211 aBU:=λ_ _ _=>AF
def aBV(p q:Aa):IT:=
 .ca 113 [p,q] λa=>.ia [a,I 1] λb=>.loop 3 [I 0,b] (λc=>.ih [a,I 0] λd=>.AH d (.ca 116 [p] λe=>.il [g c 1,e] λf=>.AH f (.BT p 0 λ_ _ h=>.ea 4 [h,g c 1] λj=>.fl j 1 λ_ k=>.BT p 0 λ_ _ m=>.ea 4 [m,g c 1] λn=>.fl n 2 λ_ o=>.BG 119 [k,o] λs=>.AH s (.rr [g c 1,g c 1]) (.ia [g c 1,I 1] λu=>.rn [g c 0,u])) (.rx 0 [g c 0,g c 1])) (.rx 0 [g c 0,g c 1])) (lx 0 (λw=>.rr [I (-1)]) λw=>.rr [g w 0])
def vW:ES cx 212 aBV:=λ_ _=>AF
def aBW(p q r u:Aa):IT:=
 .ib [u,I 1] λa=>.loop 2 [I 0,a] (λb=>.ig [g b 1,r] λc=>.AH c (.fa p 2 λ_ d=>.ca 117 [d,g b 1] λe=>.cells 4 e λf=>.ia [g b 0,I 1] λh=>.fa p 3 λ_ j=>.ca 121 [j,g f 0] λk=>.F9 200007 (.ig [h,I 3] λm=>.AH m (.ih [k,I 0] λn=>.rn [n]) (.rn [ff])) (λx o=>match x with| .normal=>.F9 100039 (.AH (g o 0) (.ca 210 [q,p,k] λ_=>.fa p 3 λ_ s=>.ca 121 [s,g f 0] λw=>.rn [w]) (.rn [k])) (λx y=>match x with| .normal=>.il [g y 0,I 0] λz=>.AH z (.fa p 2 λ_ a0=>.ca 151 [a0,g f 0] λ_=>.ib [g b 1,I 1] λa1=>.rn [h,a1]) (.fa p 3 λ_ a2=>.fl a2 0 λ_ a5=>.ea 3 [a5,g y 0] λa7=>.load (some 3) a7 λa8=>.cells 3 a8 λb0=>.fa q 5 λ_ b1=>.fl b1 0 λb2 b3=>.ca 115 [a3 b0] λb4=>.ld b2 λb5=>.same b3 b5 (.ca 59 [p,b4,I 1,b3] λb6=>.cells 4 b6 λb7=>.fa p 2 λ_ b8=>.ca 264 [b8,g f 0,a4 b7] λ_=>.fa p 3 λ_ b9=>.op (.BV [I 0,S [],.slnil] [(0,1),(1,1),(2,1)]) [g b7 0,g b0 1,g b0 2] λc0=>.ca 265 [b9,g f 0,c0] λ_=>.BT q 13 λ_ _ c2=>.fa q 9 λ_ c3=>.fl c3 0 λ_ c4=>.ie [c2,c4] λc5=>.F9 100104 (.AH c5 (.ia [g y 0,I 1] λc7=>.fa q 4 λ_ c8=>.store 1 c8 c7 (.rn [])) (.rn [])) (λx _=>match x with| .normal=>.BT q 13 λ_ _ c9=>.ca 97 [p,c9,g b7 0,I 0] λ_=>.fa q 13 λ_ d0=>.store 1 d0 (g b7 0) (.ib [g b 1,I 1] λd1=>.rn [h,d1])| .exit i=>if i=1 then .ib [g b 1,I 1] λd2=>.rn [h,d2] else .ret (.exit i) [h,g b 1]| .ret=>.rr [h,g b 1])))| .exit i=>if i=1 then .ib [g b 1,I 1] λd3=>.rn [h,d3] else .ret (.exit i) [h,g b 1]| .ret=>.rr [h,g b 1])| .exit i=>if i=1 then .ib [g b 1,I 1] λd4=>.rn [h,d4] else .ret (.exit i) [h,g b 1]| .ret=>.rr [h,g b 1])) (.rx 0 [g b 0,g b 1])) (lx 0 (λd5=>.rr [.tuple []]) λd5=>.rr [.tuple []])
def vX:Tq4 cx 213 aBW:=λ_ _ _ _=>AF
def aBX(p q r:Aa):IT:=
 .cells 3 q λa=>.op (.Ru true) [p,.ptr none] λb=>.AH b (.BT p 0 λ_ c d=>.op (.Ld true) [r,I 0] λe=>.BT p 0 λ_ f h=>.ln [h] λj=>.op (.Ld false) [e,j] λk=>.ca 198 [a3 a] λm=>.ld f λn=>.same h n (.ld c λo=>.same d o (.ca 129 [d,m,k] λs=>.fa p 0 λ_ u=>.store 1 u s (.rr [.tuple []])))) (.rr [.tuple []])
def vY:Q3 cx 214 aBX:=λ_ _ _=>AF
def aBY(p q r:Aa):IT:=
 .cells 4 q λa=>.op (.Ru true) [p,.ptr none] λb=>.AH b (.BT p 0 λ_ _ c=>.op (.Ld true) [r,I 1] λd=>.BT p 0 λ_ _ e=>.ln [e] λf=>.op (.Ld false) [d,f] λh=>.ca 191 [c,a4 a,h] λj=>.fa p 0 λ_ k=>.store 1 k j (.rr [.tuple []])) (.rr [.tuple []])
def vZ:Q3 cx 215 aBY:=λ_ _ _=>AF
def aBZ:IT:=
 .op (.BV [S [],I 0] [(0,1),(1,1)]) [S [116,114],I 14] λa=>.op (.BV [S [],I 0] [(0,1),(1,1)]) [S aUi,I 13] λb=>.op (.BV [S [],I 0] [(0,1),(1,1)]) [S aUj,I 13] λc=>.op (.BV [S [],I 0] [(0,1),(1,1)]) [S aUh,I 13] λd=>.op (.BV [S [],I 0] [(0,1),(1,1)]) [S aTU,I 11] λe=>.op (.BV [S [],I 0] [(0,1),(1,1)]) [S aT8,I 12] λf=>.op (.BV [S [],I 0] [(0,1),(1,1)]) [S aTL,I 9] λh=>.op (.BV [S [],I 0] [(0,1),(1,1)]) [S aTy,I 7] λj=>.op (.BV [S [],I 0] [(0,1),(1,1)]) [S aTD,I 20] λk=>.op (.Cl 2) [a,b,c,d,e,f,h,j,k] λm=>.rr [m]
def v8:B7 cx 216 []=aBZ:=AF
def aB0(p q:Aa):IT:=
 .ib [q,I 1] λa=>.loop 2 [I 0,a] (λb=>.ih [g b 1,I 0] λc=>.AH c (.fa p 2 λ_ d=>.ca 117 [d,g b 1] λe=>.op (.Cl 1) [S aTv] λf=>.ca 100 [e,f] λh=>.AH h (.rx 0 [g b 0,g b 1]) (.fa p 2 λ_ j=>.ca 117 [j,g b 1] λk=>.op (.Cl 1) [S aTL] λm=>.ca 100 [k,m] λn=>.AH n (.rr [I 17,g b 1]) (.ib [g b 1,I 1] λo=>.rn [g b 0,o]))) (.rx 0 [g b 0,g b 1])) (lx 0 (λs=>.rr [I 16]) λs=>.rr [g s 0])
def wA:ES cx 217 aB0:=λ_ _=>AF
def aB1(p:Aa):IT:=
 .ln [p] λa=>.loop 3 [.slnil,ff,.slnil,I 0] (λb=>.il [g b 3,a] λc=>.AH c (.ea 3 [p,g b 3] λd=>.load (some 3) d λe=>.cells 3 e λf=>.op (.Cl 1) [g f 0] λh=>.ca 224 [h] λj=>.nt [j] λk=>.AH k (.rr [.slnil,ff,g b 2,g b 3]) (.ca 124 [g b 2,.func (.func 266) [] [.BW [g f 0,g f 1,g f 2]]] λm=>.nt [m] λn=>.AH n (.load (some 3) (.BW [g f 0,g f 1,g f 2]) λo=>.op (.Cl 3) [o] λs=>.op (.append 3 40) [g b 2,s] λu=>.ia [g b 3,I 1] λw=>.rn [g b 0,g b 1,u,w]) (.ia [g b 3,I 1] λy=>.rn [g b 0,g b 1,g b 2,y]))) (.rx 0 [g b 0,g b 1,g b 2,g b 3])) (lx 0 (λz=>.rr [.tuple [g z 2,tt]]) λz=>.rr [.tuple [g z 0,g z 1]])
def wB:FL cx 218 aB1:=λ_=>AF
def aB2(p q:Aa):IT:=
 .cells 4 p λa=>.ld q λb=>.op (.Cl 1) [b] λc=>.ca 135 [a4 a,c] λd=>.rr [d]
def wC:ES cx 219 aB2:=λ_ _=>AF
def aB3(p:Aa):IT:=
 .cells 4 p λa=>.iq [g a 1,I 1] λb=>.AH b (.rr [tt]) (.BG 221 [g a 2] λc=>.nt [c] λd=>.rr [d])
def wD:FL cx 220 aB3:=λ_=>AF
def aB4(p:Aa):IT:=
 .se [p,S aTU] λa=>.AH a (.rr [tt]) (.se [p,S aT8] λb=>.AH b (.rr [tt]) (.se [p,S aUi] λc=>.AH c (.rr [tt]) (.se [p,S [116,100]] λd=>.AH d (.rr [tt]) (.se [p,S aUh] λe=>.AH e (.rr [tt]) (.se [p,S [116,104]] λf=>.AH f (.rr [tt]) (.se [p,S aUj] λh=>.AH h (.rr [tt]) (.se [p,S [116,114]] λj=>.AH j (.rr [tt]) (.BG 204 [p] λk=>.rr [k]))))))))
def wE:FL cx 221 aB4:=λ_=>AF
def aB5(p:Aa):IT:=
 .BG 223 [p,S aTp] λa=>.rr [a]
def wF:FL cx 222 aB5:=λ_=>AF
def aB6(p q:Aa):IT:=
 .ca 267 [q] λa=>.ln [a] λb=>.loop 2 [S [],I 0] (λc=>.il [g c 1,b] λd=>.AH d (.ea 1 [a,g c 1] λe=>.ld e λf=>.BG 233 [f] λh=>.se [h,p] λj=>.AH j (.rr [f,g c 1]) (.ia [g c 1,I 1] λk=>.rn [g c 0,k])) (.rx 0 [g c 0,g c 1])) (lx 0 (λm=>.rr [p]) λm=>.rr [g m 0])
def wG:ES cx 223 aB6:=λ_ _=>AF
def aB7(p:Aa):IT:=
 .ln [p] λa=>.loop 2 [ff,I 0] (λb=>.il [g b 1,a] λc=>.AH c (.ea 1 [p,g b 1] λd=>.ld d λe=>.il [e,I 0] λf=>.AH f (.rr [ff,g b 1]) (.ig [e,I 7] λh=>.AH h (.rr [ff,g b 1]) (.ia [g b 1,I 1] λj=>.rn [g b 0,j]))) (.rx 0 [g b 0,g b 1])) (lx 0 (λk=>.rr [tt]) λk=>.rr [g k 0])
def wH:FL cx 224 aB7:=λ_=>AF
def aB8(p:Aa):IT:=
 .fa p 0 λ_ a=>.fl a 0 λ_ b=>.ie [b,I 4] λc=>.AH c (.fa p 0 λ_ d=>.fl d 4 λ_ e=>.ie [e,I 1] λf=>.AH f (.fa p 0 λ_ h=>.fl h 5 λ_ j=>.se [j,S aTv] λk=>.rr [k]) (.rr [ff])) (.rr [ff])
def wI:FL cx 225 aB8:=λ_=>AF
def qy(p q:Aa):IT:=
 .BT p 1 λ_ _ a=>.mem (.zA i0 true) [a,q] λb=>.op (.ext 0) [b] λc=>.op (.ext 1) [b] λd=>.AH d (.rr [c]) (.ca 36 [p,ff] λe=>.BT p 1 λ_ _ f=>.op (.Ff false .mp) [f,.map none] λh=>.AH h (.MY λj=>.fa p 1 λ_ k=>.store 1 k j (.BT p 1 λ_ _ m=>.BT p 1 λ_ _ n=>.mem (.NA i0) [m,q] λo=>.op (.ext 1) [o] λs=>.mem .Kf [m,s,e] λ_=>.mem (.NA i0) [n,e] λu=>.op (.ext 1) [u] λw=>.mem .Kf [n,w,e] λ_=>.rr [e])) (.BT p 1 λ_ _ y=>.BT p 1 λ_ _ z=>.mem (.NA i0) [y,q] λa0=>.op (.ext 1) [a0] λa1=>.mem .Kf [y,a1,e] λ_=>.mem (.NA i0) [z,e] λa2=>.op (.ext 1) [a2] λa5=>.mem .Kf [z,a5,e] λ_=>.rr [e]))
def Vv:ES cx 226 qy:=λ_ _=>AF
def Ì(p:Aa):IT:=
 .cells 1 p λa=>.rr [.func (.func 268) [] [.BW [g a 0]]]
def dA:FL cx 227 Ì:=λ_=>AF
def qz(p q:Aa):IT:=
 .cells 1 p λa=>.cells 1 q λb=>.rr [.func (.func 269) [] [.BW [g a 0],.BW [g b 0]]]
def Vw:ES cx 228 qz:=λ_ _=>AF
def aB9(p q r:Aa):IT:=
 .ln [p] λa=>.mem (.lR 1) [p,q,r,a] λ_=>.ie [q,r] λb=>.AH b (.rr [p]) (.ln [p] λc=>.op (.PQ 1 false false true) [p,q] λd=>.op (.PQ 1 false true false) [p,r] λe=>.FQ 1 8 d e λf=>.ln [f] λh=>.mem (.yZ 1 true true) [f,h,c] λj=>.mem (.clear 1 [I 0]) [j] λ_=>.rr [f])
def wJ:Q3 cx 230 aB9:=λ_ _ _=>AF
def aCa(p:Aa):IT:=
 .EO p λa=>.ln [a] λb=>.loop 3 [I 0] (λc=>.il [g c 0,b] λd=>.AH d (.ea 1 [a,g c 0] λe=>.ld e λf=>.op (.conv .i32) [f] λh=>.BG 272 [h] λj=>.AH j (.ib [f,.int .u8 65] λk=>.ia [k,.int .u8 97] λm=>.ea 1 [a,g c 0] λn=>.store 1 n m (.ia [g c 0,I 1] λo=>.rn [o])) (.ia [g c 0,I 1] λs=>.rn [s])) (.rx 0 [g c 0])) (lx 0 (λu=>.UI a λw=>.op .Yc [w] λy=>.rr [y]) λu=>.rr [S []])
def wK:FL cx 233 aCa:=λ_=>AF
def aCb(p q:Aa):IT:=
 .ln [p] λa=>.loop 2 [I 0,I 0] (λb=>.il [g b 1,a] λc=>.AH c (.ea 1 [p,g b 1] λd=>.ld d λe=>.D4 q [e] λf=>.AH f (.rr [g b 1,g b 1]) (.ia [g b 1,I 1] λh=>.rn [g b 0,h])) (.rx 0 [g b 0,g b 1])) (lx 0 (λj=>.rr [I (-1)]) λj=>.rr [g j 0])
def wL:ES cx 234 aCb:=λ_ _=>AF
def aCc(p:Aa):IT:=
 .ca 267 [p] λa=>.rr [a]
def wM:FL cx 235 aCc:=λ_=>AF
def aCd(p q:Aa):IT:=
 .op (.PQ 4 false false true) [p,q] λa=>.op (.append 4 40) [.slnil,a] λb=>.ia [q,I 1] λc=>.op (.PQ 4 false true false) [p,c] λd=>.op (.append 4 40) [b,d] λe=>.rr [e]
def wN:ES cx 236 aCd:=λ_ _=>AF
def aCe(p q:Aa):IT:=
 .ld q λa=>.D4 a [p] λ_=>.rr [ff]
def wO:ES cx 237 aCe:=λ_ _=>AF
def aCf(p:Aa):IT:=
 .lt [p] λa=>.ie [a,I 2] λb=>.AH b (.op .UH [p,I 0] λc=>.ie [c,.int .u8 104] λd=>.AH d (.op .UH [p,I 1] λe=>.ih [e,.int .u8 49] λf=>.AH f (.op .UH [p,I 1] λh=>.ik [h,.int .u8 54] λj=>.rr [j]) (.rr [ff])) (.rr [ff])) (.rr [ff])
def wQ:FL cx 238 aCf:=λ_=>AF
def aCg(p:Aa):IT:=
 .cells 12 p λa=>.ln [g a 8] λb=>.loop 2 [ff,I 0] (λc=>.il [g c 1,b] λd=>.AH d (.ea 3 [g a 8,g c 1] λe=>.load (some 3) e λf=>.cells 3 f λh=>.se [g h 1,S aUz] λj=>.AH j (.BG 147 [g h 2,S aUn] λk=>.rr [k,g c 1]) (.ia [g c 1,I 1] λm=>.rn [g c 0,m])) (.rx 0 [g c 0,g c 1])) (lx 0 (λn=>.rr [ff]) λn=>.rr [g n 0])
def wR:FL cx 239 aCg:=λ_=>AF
def aCh(p q:Aa):IT:=
 .BT p 0 λ_ _ a=>.fa a 2 λ_ b=>.op (.Cl 1) [q] λc=>.ca 111 [b,I 1,c] λd=>.rr [d]
def wS:ES cx 240 aCh:=λ_ _=>AF
def aCi(p q r:Aa):IT:=
 .BT p 0 λ_ _ a=>.fa a 2 λ_ b=>.ca 112 [b,r] λ_=>.BT p 0 λ_ _ c=>.fa c 2 λ_ d=>.op (.Cl 1) [q] λe=>.ca 58 [d,e] λ_=>.rr [.tuple []]
def wT:Q3 cx 241 aCi:=λ_ _ _=>AF
def aCj(p q:Aa):IT:=
 .cells 4 p λa=>.ie [g a 1,I 1] λb=>.AH b (.se [g a 2,q] λc=>.rr [c]) (.rr [ff])
def wU:ES cx 242 aCj:=λ_ _=>AF
def aCk(p:Aa):IT:=
 .BT p 0 λ_ _ a=>.fa a 2 λ_ b=>.ca 117 [b,I 1] λc=>.cells 4 c λd=>.BT p 0 λ_ _ e=>.fa e 2 λ_ f=>.ca 116 [f] λh=>.ih [h,I 2] λj=>.AH j (.ca 242 [a4 d,S aTy] λk=>.rr [.tuple [g d 0,k]]) (.rr [.tuple [g d 0,ff]])
def wV:FL cx 243 aCk:=λ_=>AF
def aCl(p q:Aa):IT:=
 .op (.Cl 1) [q] λa=>.ca 143 [p,a] λb=>.iq [b,I 0] λc=>.AH c (.rr [b]) (.ca 145 [p,q] λ_=>.rr [I 0])
def wW:ES cx 244 aCl:=λ_ _=>AF
def Í(p q:Aa):IT:=
 .ca 121 [p,q] λa=>.il [a,I 0] λb=>.AH b (.rr [ff]) (.BT p 0 λ_ _ c=>.ca 197 [c,a] λd=>.fa p 0 λ_ e=>.store 1 e d (.rr [tt]))
def dB:ES cx 245 Í:=λ_ _=>AF
def aCm(p q:Aa):IT:=
 .ln [p] λa=>.loop 2 [I 0,I 0] (λb=>.il [g b 1,a] λc=>.AH c (.ea 1 [p,g b 1] λd=>.ld d λe=>.D4 q [e] λf=>.AH f (.rr [g b 1,g b 1]) (.ia [g b 1,I 1] λh=>.rn [g b 0,h])) (.rx 0 [g b 0,g b 1])) (lx 0 (λj=>.rr [I (-1)]) λj=>.rr [g j 0])
def wX:ES cx 253 aCm:=λ_ _=>AF
def Î(p:Aa):IT:=
 .op (.Ff false .sl) [p,.slnil] λa=>.AH a (.rr [.slnil]) (.op (.Cl 1) [] λb=>.F8 1 8 b p λc=>.rr [c])
def dC:FL cx 254 Î:=λ_=>AF
def aCn(p q:Aa):IT:=
 .ln [p] λa=>.loop 2 [I 0,I 0] (λb=>.il [g b 1,a] λc=>.AH c (.ea 1 [p,g b 1] λd=>.ld d λe=>.se [q,e] λf=>.AH f (.rr [g b 1,g b 1]) (.ia [g b 1,I 1] λh=>.rn [g b 0,h])) (.rx 0 [g b 0,g b 1])) (lx 0 (λj=>.rr [I (-1)]) λj=>.rr [g j 0])
def wY:ES cx 255 aCn:=λ_ _=>AF
def aCo(p q:Aa):IT:=
 .cells 1 q λa=>.ca 124 [p,.func (.func 257) [] [.BW [g a 0]]] λb=>.nt [b] λc=>.rr [c]
def wZ:ES cx 256 aCo:=λ_ _=>AF
def aCp(p q:Aa):IT:=
 .cells 3 p λa=>.ld q λb=>.ca 258 [b,a3 a] λc=>.nt [c] λd=>.rr [d]
def xA:ES cx 257 aCp:=λ_ _=>AF
def aCq(p q:Aa):IT:=
 .cells 3 q λa=>.ca 281 [p,a3 a] λb=>.ih [b,I 0] λc=>.rr [c]
def xB:ES cx 258 aCq:=λ_ _=>AF
def Ï(p q:Aa):IT:=
 .ca 92 [p,q] λa=>.nt [a] λb=>.AH b (.rr [I 0]) (.ca 96 [p,q] λc=>.fa c 0 λ_ d=>.fl d 1 λ_ e=>.rr [e])
def dD:ES cx 259 Ï:=λ_ _=>AF
def q_(p:Aa):IT:=
 .cells 1 p λa=>.ie [g a 0,I 4] λb=>.AH b (.rr [.func (.func 282) [] []]) (.ie [g a 0,I 5] λc=>.AH c (.rr [.func (.func 283) [] []]) (.rr [.func (.func 284) [] [.BW [g a 0]]]))
def Vx:FL cx 260 q_:=λ_=>AF
def aCr(p q r:Aa):IT:=
 .cells 4 p λa=>.ld q λb=>.D4 b [a4 a] λc=>.AH c (.rr [tt]) (.ld r λd=>.D4 d [a4 a] λe=>.rr [e])
def xC:Q3 cx 261 aCr:=λ_ _ _=>AF
def aCs(p q r:Aa):IT:=
 .ln [p] λa=>.mem (.lR 3) [p,q,r,a] λ_=>.ie [q,r] λb=>.AH b (.rr [p]) (.ln [p] λc=>.op (.PQ 3 false false true) [p,q] λd=>.op (.PQ 3 false true false) [p,r] λe=>.FQ 3 48 d e λf=>.ln [f] λh=>.mem (.yZ 3 true true) [f,h,c] λj=>.mem (.clear 3 [I 0,S [],.slnil]) [j] λ_=>.rr [f])
def xD:Q3 cx 262 aCs:=λ_ _ _=>AF
def aCt(p q:Aa):IT:=
 .cells 4 p λa=>.ld q λb=>.ie [g a 0,b] λc=>.rr [c]
def xE:ES cx 263 aCt:=λ_ _=>AF
def Ð(p q r:Aa):IT:=
 .cells 4 r λa=>.ca 113 [p,q] λb=>.il [b,I 1] λc=>.AH c (.H6 0 p (.rr [ff])) (.BT p 0 λ_ _ d=>.ca 285 [d] λe=>.fa p 0 λ_ f=>.store 1 f e (.BT p 0 λ_ _ h=>.ea 4 [h,b] λj=>.store 4 j (a4 a) (.H6 0 p (.rr [tt]))))
def dE:Q3 cx 264 Ð:=λ_ _ _=>AF
def Ñ(p q r:Aa):IT:=
 .cells 3 r λa=>.ca 121 [p,q] λb=>.il [b,I 0] λc=>.AH c (.H6 0 p (.rr [ff])) (.BT p 0 λ_ _ d=>.ca 114 [d] λe=>.fa p 0 λ_ f=>.store 1 f e (.BT p 0 λ_ h j=>.ca 198 [a3 a] λk=>.ld h λm=>.same j m (.ea 3 [j,b] λn=>.store 3 n k (.H6 0 p (.rr [tt])))))
def dF:Q3 cx 265 Ñ:=λ_ _ _=>AF
def aCu(p q:Aa):IT:=
 .cells 3 p λa=>.fl q 0 λ_ b=>.ie [b,g a 0] λc=>.AH c (.fl q 1 λ_ d=>.se [d,g a 1] λe=>.rr [e]) (.rr [ff])
def xF:ES cx 266 aCu:=λ_ _=>AF
def aCv(p:Aa):IT:=
 .loop 5 [I 0,I 1,.int .u8 0,I 0] (λa=>.lt [p] λb=>.il [g a 3,b] λc=>.AH c (.op .UH [p,g a 3] λd=>.op (.int .or) [g a 2,d] λe=>.op (.TY 256 1) [.BW GD,d] λf=>.ld f λh=>.op (.conv .i64) [h] λj=>.op (.un .xor) [j] λk=>.op (.int .and) [g a 1,k] λm=>.ia [g a 0,m] λn=>.ia [g a 3,I 1] λo=>.rn [n,j,e,o]) (.rx 0 [g a 0,g a 1,g a 2,g a 3])) (lx 0 (λs=>.ih [g s 2,.int .u8 128] λu=>.AH u (.ca 286 [p,.func (.func 287) [] []] λw=>.UI w λy=>.rr [y]) (.make 1 16 [S []] (g s 0) (g s 0) λz=>.loop 18 [I 0] (λa0=>.lt [p] λa1=>.il [g a0 0,a1] λa2=>.AH a2 (.op .UH [p,g a0 0] λa5=>.op (.TY 256 1) [.BW GD,a5] λa7=>.ld a7 λa8=>.iq [a8,.int .u8 0] λb0=>.AH b0 (.ia [g a0 0,I 1] λb1=>.rn [b1]) (.rx 2 [g a0 0])) (.rx 2 [g a0 0])) (lx 2 (λb2=>.loop 21 [I 0,g b2 0,g b2 0] (λb3=>.lt [p] λb4=>.il [g b3 2,b4] λb5=>.AH b5 (.op .UH [p,g b3 2] λb6=>.op (.TY 256 1) [.BW GD,b6] λb7=>.ld b7 λb8=>.ie [b8,.int .u8 0] λb9=>.AH b9 (.ia [g b3 2,I 1] λc1=>.rn [g b3 0,g b3 1,c1]) (.op (.PQ 0 true true true) [p,g b3 1,g b3 2] λc2=>.ea 1 [z,g b3 0] λc3=>.store 1 c3 c2 (.ia [g b3 0,I 1] λc4=>.ia [g b3 2,I 1] λc5=>.loop 27 [c5] (λc6=>.lt [p] λc7=>.il [g c6 0,c7] λc8=>.AH c8 (.op .UH [p,g c6 0] λc9=>.op (.TY 256 1) [.BW GD,c9] λd0=>.ld d0 λd1=>.iq [d1,.int .u8 0] λd2=>.AH d2 (.ia [g c6 0,I 1] λd3=>.rn [d3]) (.rx 6 [g c6 0])) (.rx 6 [g c6 0])) (λx d4=>match x with| .normal=>.fail| .exit i=>if i=6 then .rn [c4,g d4 0,g d4 0] else if i=5 then .rn [c4,g b3 1,g d4 0] else .ret (.exit i) [c4,g b3 1,g d4 0]| .ret=>.rr [c4,g b3 1,g d4 0])))) (.rx 4 [g b3 0,g b3 1,g b3 2])) (lx 4 (λd5=>.lt [p] λd6=>.il [g d5 1,d6] λd7=>.AH d7 (.op (.PQ 0 true true false) [p,g d5 1] λd8=>.ea 1 [z,g d5 0] λd9=>.store 1 d9 d8 (.UI z λe0=>.rr [e0])) (.UI z λe1=>.rr [e1])) λd5=>.UI .slnil λe2=>.rr [e2])) λb2=>.UI .slnil λe3=>.rr [e3]))) λs=>.UI .slnil λe4=>.rr [e4])
def xG:FL cx 267 aCv:=λ_=>AF
def aCw(p q:Aa):IT:=
 .ld q λa=>.ln [a] λb=>.loop 2 [ff,I 0] (λc=>.il [g c 1,b] λd=>.AH d (.ea 1 [a,g c 1] λe=>.ld e λf=>.D4 f [p] λh=>.AH h (.rr [tt,g c 1]) (.ia [g c 1,I 1] λj=>.rn [g c 0,j])) (.rx 0 [g c 0,g c 1])) (lx 0 (λk=>.rr [ff]) λk=>.rr [g k 0])
def xH:ES cx 268 aCw:=λ_ _=>AF
def Ò(p q r:Aa):IT:=
 .ld q λa=>.ik [a,p] λb=>.AH b (.ld r λc=>.ik [p,c] λd=>.rr [d]) (.rr [ff])
def dG:Q3 cx 269 Ò:=λ_ _ _=>AF
def aCx(p:Aa):IT:=
 .ca 228 [.int .i32 65,.int .i32 90] λa=>.D4 a [p] λb=>.rr [b]
def xI:FL cx 272 aCx:=λ_=>AF
def aCy(p q:Aa):IT:=
 .cells 3 q λa=>.ln [p] λb=>.loop 2 [I 0,I 0] (λc=>.il [g c 1,b] λd=>.AH d (.ea 3 [p,g c 1] λe=>.load (some 3) e λf=>.op (.geq false [.i,.s,.s]) [a3 a,f] λh=>.AH h (.rr [g c 1,g c 1]) (.ia [g c 1,I 1] λj=>.rn [g c 0,j])) (.rx 0 [g c 0,g c 1])) (lx 0 (λk=>.rr [I (-1)]) λk=>.rr [g k 0])
def xJ:ES cx 281 aCy:=λ_ _=>AF
def aCz(p:Aa):IT:=
 .cells 4 p λa=>.op (.Cl 1) [S aTu,S aTL,S aTv] λb=>.ca 135 [a4 a,b] λc=>.rr [c]
def xK:FL cx 282 aCz:=λ_=>AF
def aCA(p:Aa):IT:=
 .cells 4 p λa=>.op (.Cl 1) [S aT6,S aTO] λb=>.ca 135 [a4 a,b] λc=>.nt [c] λd=>.rr [d]
def xL:FL cx 283 aCA:=λ_=>AF
def aCB(p q:Aa):IT:=
 .cells 4 p λa=>.ie [g a 1,I 3] λb=>.AH b (.BG 119 [g a 1,g a 2] λc=>.rr [c]) (.ie [g a 1,I 2] λd=>.AH d (.BG 119 [g a 1,g a 2] λe=>.rr [e]) (.op (.Cl 1) [S aUJ,S aTU,S aTu,S aUA,S aUP,S aTL,S [116,100],S aTv,S [116,104]] λf=>.ca 135 [a4 a,f] λh=>.AH h (.rr [tt]) (.ld q λj=>.ie [j,I 2] λk=>.AH k (.op (.Cl 1) [S [111,108],S [117,108]] λm=>.ca 135 [a4 a,m] λn=>.AH n (.rr [tt]) (.ld q λo=>.ie [o,I 3] λs=>.AH s (.op (.Cl 1) [S aTw] λu=>.ca 135 [a4 a,u] λw=>.rr [w]) (.rr [ff]))) (.ld q λy=>.ie [y,I 3] λz=>.AH z (.op (.Cl 1) [S aTw] λa0=>.ca 135 [a4 a,a0] λa1=>.rr [a1]) (.rr [ff])))))
def xM:ES cx 284 aCB:=λ_ _=>AF
def aCC(p:Aa):IT:=
 .op (.Ff false .sl) [p,.slnil] λa=>.AH a (.rr [.slnil]) (.op (.Cl 4) [] λb=>.Jk 4 40 b p λc=>.rr [c])
def xN:FL cx 285 aCC:=λ_=>AF
def aFH(p q:Aa):IT:=
 .make 2 16 [I 0,I 0] i0 (I 32) λ_=>.fail
def Ó:ES cx 286 aFH:=λ_ _=>AF
def Vy(p:Aa):IT:=
 .BT p 6 λ_ _ a=>.ln [a] λb=>.ig [b,I 0] λc=>.AH c (.BT p 6 λ_ _ d=>.ib [b,I 1] λe=>.op (.PQ 1 false false true) [d,e] λf=>.ca 200073 [f] λh=>.fa p 6 λ_ j=>.store 1 j h (.rr [.tuple []])) (.rr [.tuple []])
def Re:FL cx 100080 Vy:=λ_=>AF
def Vz(p:Aa):IT:=
 .op (.Ff false .sl) [p,.slnil] λa=>.AH a (.rr [.slnil]) (.op (.Cl 3) [] λb=>.Jk 3 40 b p λc=>.rr [c])
def Rf:FL cx 100084 Vz:=λ_=>AF
def VA(p:Aa):IT:=
 .op (.Ff false .sl) [p,.slnil] λa=>.AH a (.rr [.slnil]) (.op (.EC 1) [] λb=>.Jk 1 8 b p λc=>.rr [c])
def Rg:FL cx 200073 VA:=λ_=>AF
end Go.Am
