/- Lemmas -/
import Derived.Test.YtdbnpiefklklhaaGreatDoorH9
import Derived.Test.YtdbnpiefklklhaaGreatDoorH18
set_option linter.all false
namespace Go.Am
open Go
def aBt(p:Aa):IT:=
 .Bn 237 [p,S aTt] λa=>.rr [a]
def uZ:FC cx 172 aBt:=λ_=>AA
def Ã(p q r u w:Aa):IT:=
 .ca 176 [p,q] λa=>.iq [a,I 0] λb=>.AD b (.rr [.tuple [I 0,a]]) (.ca 232 [w] λc=>.op (.ext 0) [c] λd=>.op (.ext 1) [c] λe=>.nt [e] λf=>.AD f (.rr [.tuple [I 0,I 2]]) (.op (.Ch 1) [r] λh=>.ca 238 [h] λj=>.nt [j] λk=>.AD k (.rr [.tuple [I 0,I 2]]) (.op (.B6 [I 0,I 0,.slnil,I 0,I 0,S [],.slnil,S [],S [],S [],ff,I 0,I 0] [(0,1),(3,1),(4,1),(5,1),(6,1)]) [I 4,q,r,u,d] λm=>.ca 143 [p,m] λn=>.ca 144 [p,n] λo=>.ca 239 [o] λs=>.AD s (.ca 240 [p,q] λy=>.op (.B6 [I 0,I 0,.slnil,I 0,I 0,S [],.slnil,S [],S [],S [],ff,I 0,I 0] [(0,1),(12,1),(3,1)]) [I 2,n,y] λz=>.ca 143 [p,z] λa0=>.ca 144 [p,n] λa1=>.fa a1 0 λ_ a2=>.op (.Fb 11) [a2] λa5=>.store 1 a5 a0 (.rr [.tuple [n,I 0]])) (.rr [.tuple [n,I 0]]))))
def cV:Tq5 cx 173 Ã:=λ_ _ _ _ _=>AA
def Ä(p q:Aa):IT:=
 .ca 94 [p,q] λa=>.cells 13 a λb=>.iq [g b 11,I 0] λc=>.AD c (.ca 94 [p,g b 11] λd=>.cells 13 d λe=>.iq [g e 3,I 0] λf=>.AD f (.rr [g e 3]) (.BP p 1 λ_ _ h=>.rr [h])) (.iq [g b 3,I 0] λj=>.AD j (.rr [g b 3]) (.BP p 1 λ_ _ k=>.rr [k]))
def cW:EB cx 174 Ä:=λ_ _=>AA
def Å(p:Aa):IT:=
 .ca 242 [.int .i32 9,.int .i32 10] λa=>.ca 242 [.int .i32 12,.int .i32 13] λb=>.ca 242 [.int .i32 32,.int .i32 32] λc=>.op (.Ch 1) [a,b,c] λd=>.ca 241 [d] λe=>.D3 e [p] λf=>.rr [f]
def cX:FC cx 175 Å:=λ_=>AA
def aBu(p q:Aa):IT:=
 .op (.Ch 1) [q] λa=>.ca 178 [p,a] λb=>.iq [b,I 0] λc=>.AD c (.rr [b]) (.ca 144 [p,q] λd=>.fa d 0 λ_ e=>.fl e 0 λ_ f=>.iq [f,I 1] λh=>.AD h (.rr [I 9]) (.rr [I 0]))
def u0:EB cx 176 aBu:=λ_ _=>AA
def Æ(p q r:Aa):IT:=
 .cells 13 r λa=>.ca 176 [p,q] λb=>.iq [b,I 0] λc=>.AD c (.rr [.tuple [I 0,b]]) (.cells 1 q λd=>.ca 143 [p,.agg [g a 0,g a 1,g a 2,g d 0,g a 4,g a 5,g a 6,g a 7,g a 8,g a 9,g a 10,g a 11,g a 12]] λe=>.rr [.tuple [e,I 0]])
def cY:QB cx 177 Æ:=λ_ _ _=>AA
def aBv(p q:Aa):IT:=
 .op (.Qp false) [p,.ptr none] λa=>.AD a (.rr [I 1]) (.ln [q] λb=>.loop 4 [I 0,I 0] (λc=>.il [g c 1,b] λd=>.AD d (.ea 1 [q,g c 1] λe=>.ld e λf=>.ca 140 [p,f] λh=>.nt [h] λj=>.AD j (.rr [I 3,g c 1]) (.ia [g c 1,I 1] λk=>.rn [g c 0,k])) (.rx 0 [g c 0,g c 1])) (lx 0 (λm=>.rr [I 0]) λm=>.rr [g m 0]))
def u9:EB cx 178 aBv:=λ_ _=>AA
def Ç(p q:Aa):IT:=
 .ca 144 [p,q] λa=>.fa a 0 λ_ b=>.fl b 1 λ_ c=>.ie [c,I 0] λd=>.AD d (.rr [.tuple []]) (.fa a 0 λ_ e=>.fl e 1 λ_ f=>.ca 144 [p,f] λh=>.fa h 0 λ_ j=>.fl j 2 λ_ k=>.ca 150 [k,q] λm=>.fa h 0 λ_ n=>.fl n 2 λ_ o=>.ia [m,I 1] λs=>.ca 244 [o,m,s] λu=>.fa h 0 λ_ w=>.op (.Fb 2) [w] λy=>.store 1 y u (.fa a 0 λ_ z=>.op (.Fb 1) [z] λa0=>.store 1 a0 i0 (.rr [.tuple []])))
def cZ:EB cx 180 Ç:=λ_ _=>AA
def aBw(p q:Aa):IT:=
 .Bn 247 [p] λa=>.Bn 247 [q] λb=>.se [a,b] λc=>.rr [c]
def vA:EB cx 182 aBw:=λ_ _=>AA
def aBx(p q:Aa):IT:=
 .fl q 3 λ_ a=>.lt [a] λb=>.lt [p] λc=>.ih [b,c] λd=>.AD d (.fl q 3 λ_ e=>.lt [p] λf=>.op (.OM 0 true false true) [e,f] λh=>.Bn 182 [h,p] λj=>.rr [j]) (.rr [ff])
def vB:EB cx 183 aBx:=λ_ _=>AA
def aBy(p q:Aa):IT:=
 .ca 248 [p,q] λa=>.ih [a,I 0] λb=>.rr [b]
def vC:EB cx 184 aBy:=λ_ _=>AA
def È(p q:Aa):IT:=
 .ca 192 [q] λa=>.ca 206 [a,p] λb=>.rr [b]
def dA:EB cx 185 È:=λ_ _=>AA
def É(p q:Aa):IT:=
 .ca 120 [p,q] λa=>.il [a,I 1] λb=>.AD b (.rr [ff]) (.BP p 0 λ_ _ c=>.ca 249 [c,a] λd=>.fa p 0 λ_ e=>.store 1 e d (.rr [tt]))
def dB:EB cx 186 É:=λ_ _=>AA
def aFL(p q:Aa):IT:=
 .ln [p] λa=>.ln [q] λb=>.iq [a,b] λc=>.AD c (.rr [ff]) (.ln [p] λd=>.loop 4 [ff,I 0] (λe=>.il [g e 1,d] λf=>.AD f (.ea 3 [p,g e 1] λh=>.load (some 3) h λj=>.ea 3 [q,g e 1] λk=>.load (some 3) k λm=>.op (.geq true [.i,.s,.s]) [j,m] λn=>.AD n (.rr [ff,g e 1]) (.ia [g e 1,I 1] λo=>.rn [g e 0,o])) (.rx 0 [g e 0,g e 1])) (lx 0 (λs=>.rr [tt]) λs=>.rr [g s 0]))
def Ê:EB cx 187 aFL:=λ_ _=>AA
def aBz(p:Aa):IT:=
 .fa p 2 λ_ a=>.fa p 2 λ_ b=>.ca 162 [a,S aTO] λc=>.ca 162 [b,S aTz] λd=>.ig [d,c] λe=>.AD e (.fa p 2 λ_ f=>.ca 132 [f,d] λh=>.op (.part 0 none) [h] λj=>.rr [.tuple [j,I 0]]) (.il [c,I 0] λk=>.AD k (.fa p 2 λ_ m=>.ca 132 [m,I 0] λn=>.op (.part 0 none) [n] λo=>.rr [.tuple [o,I 0]]) (.fa p 2 λ_ s=>.ca 132 [s,c] λu=>.op (.part 0 none) [u] λw=>.BP p 0 λ_ _ y=>.ca 250 [y,w] λz=>.iq [z,I 0] λa0=>.AD a0 (.rr [.tuple [z,w]]) (.fa p 2 λ_ a1=>.ib [c,I 1] λa2=>.op (.K4 true) [a2,I 0] λa5=>.ca 132 [a1,a5] λa7=>.op (.part 0 none) [a7] λa8=>.rr [.tuple [a8,I 0]])))
def vD:FC cx 188 aBz:=λ_=>AA
def aBA(p q:Aa):IT:=
 .ca 251 [p,q] λa=>.ih [a,I 0] λb=>.rr [b]
def vE:EB cx 189 aBA:=λ_ _=>AA
def Ë(p q:Aa):IT:=
 .ca 140 [p,q] λa=>.nt [a] λb=>.AD b (.rr [.slnil]) (.ca 144 [p,q] λc=>.fa c 0 λ_ d=>.fl d 2 λ_ e=>.ca 252 [e] λf=>.rr [f])
def dC:EB cx 190 Ë:=λ_ _=>AA
def aBB(p q:Aa):IT:=
 .ld q λa=>.ca 94 [a,p] λb=>.op (.part 0 none) [b] λc=>.ie [c,I 4] λd=>.rr [d]
def vF:EB cx 191 aBB:=λ_ _=>AA
def aBC(p:Aa):IT:=
 .ca 253 [p] λa=>.rr [a]
def vG:FC cx 192 aBC:=λ_=>AA
def aBD(p q:Aa):IT:=
 .ld q λa=>.D3 a [p] λ_=>.rr [ff]
def vH:EB cx 193 aBD:=λ_ _=>AA
def aBE(p:Aa):IT:=
 .lt [p] λa=>.ie [a,I 2] λb=>.AD b (.op .Rz [p,I 0] λc=>.ie [c,.int .u8 104] λd=>.AD d (.op .Rz [p,I 1] λe=>.ih [e,.int .u8 49] λf=>.AD f (.op .Rz [p,I 1] λh=>.ik [h,.int .u8 54] λj=>.rr [j]) (.rr [ff])) (.rr [ff])) (.rr [ff])
def vI:FC cx 194 aBE:=λ_=>AA
def aBF(p:Aa):IT:=
 .cells 12 p λa=>.ln [g a 8] λb=>.loop 2 [ff,I 0] (λc=>.il [g c 1,b] λd=>.AD d (.ea 3 [g a 8,g c 1] λe=>.load (some 3) e λf=>.cells 3 f λh=>.se [g h 1,S aUG] λj=>.AD j (.Bn 182 [g h 2,S aUs] λk=>.rr [k,g c 1]) (.ia [g c 1,I 1] λm=>.rn [g c 0,m])) (.rx 0 [g c 0,g c 1])) (lx 0 (λn=>.rr [ff]) λn=>.rr [g n 0])
def vJ:FC cx 195 aBF:=λ_=>AA
def aBG(p q:Aa):IT:=
 .BP p 0 λ_ _ a=>.fa a 2 λ_ b=>.op (.Ch 1) [q] λc=>.ca 154 [b,I 1,c] λd=>.rr [d]
def vK:EB cx 196 aBG:=λ_ _=>AA
def aBH(p q r:Aa):IT:=
 .BP p 0 λ_ _ a=>.fa a 2 λ_ b=>.ca 134 [b,r] λ_=>.BP p 0 λ_ _ c=>.fa c 2 λ_ d=>.op (.Ch 1) [q] λe=>.ca 66 [d,e] λ_=>.rr [.tuple []]
def vL:QB cx 197 aBH:=λ_ _ _=>AA
def aBI(p q:Aa):IT:=
 .cells 4 p λa=>.ie [g a 1,I 1] λb=>.AD b (.se [g a 2,q] λc=>.rr [c]) (.rr [ff])
def vM:EB cx 198 aBI:=λ_ _=>AA
def aBJ(p:Aa):IT:=
 .BP p 0 λ_ _ a=>.fa a 2 λ_ b=>.ca 132 [b,I 1] λc=>.cells 4 c λd=>.BP p 0 λ_ _ e=>.fa e 2 λ_ f=>.ca 131 [f] λh=>.ih [h,I 2] λj=>.AD j (.ca 198 [a4 d,S aTF] λk=>.rr [.tuple [g d 0,k]]) (.rr [.tuple [g d 0,ff]])
def vN:FC cx 199 aBJ:=λ_=>AA
def aBK(p q:Aa):IT:=
 .op (.Ch 1) [q] λa=>.ca 178 [p,a] λb=>.iq [b,I 0] λc=>.AD c (.rr [b]) (.ca 180 [p,q] λ_=>.rr [I 0])
def vO:EB cx 200 aBK:=λ_ _=>AA
def aBL(p q:Aa):IT:=
 .op (.Qp false) [p,.ptr none] λa=>.AD a (.rr [I (-1)]) (.BP p 0 λ_ _ b=>.ln [b] λc=>.ib [c,I 1] λd=>.loop 4 [I 0,d] (λe=>.ih [g e 1,I 0] λf=>.AD f (.BP p 0 λ_ _ h=>.ea 3 [h,g e 1] λj=>.fl j 0 λ_ k=>.iq [k,I 0] λm=>.AD m (.BP p 0 λ_ _ n=>.ea 3 [n,g e 1] λo=>.fl o 1 λ_ s=>.se [s,q] λu=>.AD u (.rr [g e 1,g e 1]) (.ib [g e 1,I 1] λw=>.rn [g e 0,w])) (.rx 0 [g e 0,g e 1])) (.rx 0 [g e 0,g e 1])) (lx 0 (λy=>.rr [I (-1)]) λy=>.rr [g y 0]))
def vP:EB cx 201 aBL:=λ_ _=>AA
def Ì(p q:Aa):IT:=
 .ca 156 [p,q] λa=>.il [a,I 0] λb=>.AD b (.rr [ff]) (.BP p 0 λ_ _ c=>.ca 220 [c,a] λd=>.fa p 0 λ_ e=>.store 1 e d (.rr [tt]))
def dD:EB cx 202 Ì:=λ_ _=>AA
def aBM(p q:Aa):IT:=
 .ca 131 [p] λa=>.ib [a,I 1] λb=>.loop 2 [I 0,b] (λc=>.ih [g c 1,I 0] λd=>.AD d (.BP p 0 λ_ _ e=>.ea 4 [e,g c 1] λf=>.load (some 4) f λh=>.D3 q [h] λj=>.AD j (.rr [g c 1,g c 1]) (.ib [g c 1,I 1] λk=>.rn [g c 0,k])) (.rx 0 [g c 0,g c 1])) (lx 0 (λm=>.rr [I (-1)]) λm=>.rr [g m 0])
def vQ:EB cx 203 aBM:=λ_ _=>AA
def aBN(p q:Aa):IT:=
 .cells 4 p λa=>.ld q λb=>.ie [g a 0,b] λc=>.rr [c]
def vR:EB cx 204 aBN:=λ_ _=>AA
def aBO(p q r:Aa):IT:=
 .cells 1 r λa=>.ca 223 [p,q,.func (.func 254) [] [.BR [g a 0]]] λb=>.rr [b]
def vS:QB cx 205 aBO:=λ_ _ _=>AA
def aBP(p q:Aa):IT:=
 .ca 255 [p,q] λa=>.ih [a,I 0] λb=>.rr [b]
def vT:EB cx 206 aBP:=λ_ _=>AA
def aBQ(p q:Aa):IT:=
 .cells 4 p λa=>.iq [g a 1,I 1] λb=>.AD b (.rr [tt]) (.Bn 208 [g a 2] λc=>.nt [c] λd=>.AD d (.rr [tt]) (.ld q λe=>.se [g a 2,e] λf=>.rr [f]))
def vU:EB cx 207 aBQ:=λ_ _=>AA
def aBR(p:Aa):IT:=
 .se [p,S [100,100]] λa=>.AD a (.rr [tt]) (.se [p,S [100,116]] λb=>.AD b (.rr [tt]) (.se [p,S [108,105]] λc=>.AD c (.rr [tt]) (.se [p,S aUc] λd=>.AD d (.rr [tt]) (.se [p,S aTT] λe=>.AD e (.rr [tt]) (.se [p,S [112]] λf=>.AD f (.rr [tt]) (.se [p,S [114,98]] λh=>.AD h (.rr [tt]) (.se [p,S [114,112]] λj=>.AD j (.rr [tt]) (.se [p,S [114,116]] λk=>.AD k (.rr [tt]) (.se [p,S aUP] λm=>.AD m (.rr [tt]) (.rr [ff]))))))))))
def vV:FC cx 208 aBR:=λ_=>AA
def aBS(p q:Aa):IT:=
 .cells 4 p λa=>.ld q λb=>.ie [g a 0,b] λc=>.rr [c]
def vW:EB cx 209 aBS:=λ_ _=>AA
def aBT(p q:Aa):IT:=
 .ie [p,I 3] λa=>.AD a (.se [q,S [109,105]] λb=>.AD b (.rr [tt]) (.se [q,S [109,110]] λc=>.AD c (.rr [tt]) (.se [q,S [109,111]] λd=>.AD d (.rr [tt]) (.se [q,S [109,115]] λe=>.AD e (.rr [tt]) (.se [q,S [109,116,101,120,116]] λf=>.rr [f]))))) (.rr [ff])
def vX:EB cx 210 aBT:=λ_ _=>AA
def aBU(p q r:Aa):IT:=
 .cells 4 q λa=>.op (.OM 4 false false true) [p,r] λb=>.op (.append 4 40) [.slnil,b] λc=>.op (.Ch 4) [a4 a] λd=>.op (.append 4 40) [c,d] λe=>.op (.OM 4 false true false) [p,r] λf=>.op (.append 4 40) [e,f] λh=>.rr [h]
def vY:QB cx 215 aBU:=λ_ _ _=>AA
def rp(p q:Aa):IT:=
 .ln [p] λa=>.loop 2 [I 0,I 0] (λb=>.il [g b 1,a] λc=>.AD c (.ea 3 [p,g b 1] λd=>.load (some 3) d λe=>.D3 q [e] λf=>.AD f (.rr [g b 1,g b 1]) (.ia [g b 1,I 1] λh=>.rn [g b 0,h])) (.rx 0 [g b 0,g b 1])) (lx 0 (λj=>.rr [I (-1)]) λj=>.rr [g j 0])
def Vt:EB cx 216 rp:=λ_ _=>AA
def aBV(p:Aa):IT:=
 .cells 3 p λa=>.ie [g a 0,I 0] λb=>.AD b (.se [g a 1,S aVg] λc=>.rr [c]) (.rr [ff])
def vZ:FC cx 217 aBV:=λ_=>AA
def aBW(p:Aa):IT:=
 .fa p 0 λ_ a=>.load (some 13) a λb=>.cells 13 b λc=>.fa p 0 λ_ d=>.fl d 2 λ_ e=>.fa p 0 λ_ f=>.fl f 6 λh j=>.ca 252 [e] λk=>.ld h λm=>.same j m (.ca 100088 [j] λn=>.cells 1 k λo=>.cells 1 n λs=>.cells 13 (.agg [g c 0,g c 1,g o 0,g c 3,g c 4,g c 5,g s 0,g c 7,g c 8,g c 9,g c 10,g c 11,g c 12]) λu=>.rr [m_ u])
def v8:FC cx 218 aBW:=λ_=>AA
def aBX(p q:Aa):IT:=
 .cells 3 p λa=>.cells 3 q λb=>.se [g a 1,g b 1] λc=>.AD c (.ln [g a 2] λd=>.ln [g b 2] λe=>.ie [d,e] λf=>.AD f (.D3 (.func (.func 263) [] []) [g a 2,g b 2] λh=>.AD h (.D3 (.func (.func 263) [] []) [g b 2,g a 2] λj=>.rr [j]) (.rr [ff])) (.rr [ff])) (.rr [ff])
def wA:EB cx 219 aBX:=λ_ _=>AA
def aBY(p q:Aa):IT:=
 .op (.OM 3 false false true) [p,q] λa=>.op (.append 3 48) [.slnil,a] λb=>.ia [q,I 1] λc=>.op (.OM 3 false true false) [p,c] λd=>.op (.append 3 48) [b,d] λe=>.rr [e]
def wB:EB cx 220 aBY:=λ_ _=>AA
def aBZ(p:Aa):IT:=
 .cells 3 p λa=>.ca 88 [g a 2] λb=>.cells 1 b λc=>.cells 3 (.agg [g a 0,g a 1,g c 0]) λd=>.rr [a3 d]
def wC:FC cx 221 aBZ:=λ_=>AA
def Í(p q:Aa):IT:=
 .op (.conv .u32) [q] λa=>.ik [a,.int .u32 2047] λb=>.AD b (.op (.int .shr) [q,.int .u64 6] λc=>.op (.conv .u8) [c] λd=>.op (.int .or) [.int .u8 192,d] λe=>.op (.conv .u8) [q] λf=>.op (.int .and) [f,.int .u8 63] λh=>.op (.int .or) [.int .u8 128,h] λj=>.op (.Ch 1) [e,j] λk=>.FH 1 1 p k λm=>.rr [m]) (.il [a,.int .u32 55296] λn=>.AD n (.op (.int .shr) [q,.int .u64 12] λo=>.op (.conv .u8) [o] λs=>.op (.int .or) [.int .u8 224,s] λu=>.op (.int .shr) [q,.int .u64 6] λw=>.op (.conv .u8) [w] λy=>.op (.int .and) [y,.int .u8 63] λz=>.op (.int .or) [.int .u8 128,z] λa0=>.op (.conv .u8) [q] λa1=>.op (.int .and) [a1,.int .u8 63] λa2=>.op (.int .or) [.int .u8 128,a2] λa5=>.op (.Ch 1) [u,a0,a5] λa7=>.FH 1 1 p a7 λa8=>.rr [a8]) (.il [.int .u32 57343,a] λb0=>.AD b0 (.ik [a,.int .u32 65535] λb1=>.AD b1 (.op (.int .shr) [q,.int .u64 12] λb2=>.op (.conv .u8) [b2] λb3=>.op (.int .or) [.int .u8 224,b3] λb4=>.op (.int .shr) [q,.int .u64 6] λb5=>.op (.conv .u8) [b5] λb6=>.op (.int .and) [b6,.int .u8 63] λb7=>.op (.int .or) [.int .u8 128,b7] λb8=>.op (.conv .u8) [q] λb9=>.op (.int .and) [b9,.int .u8 63] λc0=>.op (.int .or) [.int .u8 128,c0] λc1=>.op (.Ch 1) [b4,b8,c1] λc2=>.FH 1 1 p c2 λc3=>.rr [c3]) (.ig [a,.int .u32 65535] λc4=>.AD c4 (.ik [a,.int .u32 1114111] λc5=>.AD c5 (.op (.int .shr) [q,.int .u64 18] λc6=>.op (.conv .u8) [c6] λc7=>.op (.int .or) [.int .u8 240,c7] λc8=>.op (.int .shr) [q,.int .u64 12] λc9=>.op (.conv .u8) [c9] λd0=>.op (.int .and) [d0,.int .u8 63] λd1=>.op (.int .or) [.int .u8 128,d1] λd2=>.op (.int .shr) [q,.int .u64 6] λd3=>.op (.conv .u8) [d3] λd4=>.op (.int .and) [d4,.int .u8 63] λd5=>.op (.int .or) [.int .u8 128,d5] λd6=>.op (.conv .u8) [q] λd7=>.op (.int .and) [d7,.int .u8 63] λd8=>.op (.int .or) [.int .u8 128,d8] λd9=>.op (.Ch 1) [c8,d2,d6,d9] λe0=>.FH 1 1 p e0 λe1=>.rr [e1]) (.op (.Ch 1) [.int .u8 239,.int .u8 191,.int .u8 189] λe2=>.FH 1 1 p e2 λe3=>.rr [e3])) (.op (.Ch 1) [.int .u8 239,.int .u8 191,.int .u8 189] λe4=>.FH 1 1 p e4 λe5=>.rr [e5]))) (.ig [a,.int .u32 65535] λe6=>.AD e6 (.ik [a,.int .u32 1114111] λe7=>.AD e7 (.op (.int .shr) [q,.int .u64 18] λe8=>.op (.conv .u8) [e8] λe9=>.op (.int .or) [.int .u8 240,e9] λf0=>.op (.int .shr) [q,.int .u64 12] λf1=>.op (.conv .u8) [f1] λf2=>.op (.int .and) [f2,.int .u8 63] λf3=>.op (.int .or) [.int .u8 128,f3] λf4=>.op (.int .shr) [q,.int .u64 6] λf5=>.op (.conv .u8) [f5] λf6=>.op (.int .and) [f6,.int .u8 63] λf7=>.op (.int .or) [.int .u8 128,f7] λf8=>.op (.conv .u8) [q] λf9=>.op (.int .and) [f9,.int .u8 63] λh0=>.op (.int .or) [.int .u8 128,h0] λh1=>.op (.Ch 1) [f0,f4,f8,h1] λh2=>.FH 1 1 p h2 λh3=>.rr [h3]) (.op (.Ch 1) [.int .u8 239,.int .u8 191,.int .u8 189] λh4=>.FH 1 1 p h4 λh5=>.rr [h5])) (.op (.Ch 1) [.int .u8 239,.int .u8 191,.int .u8 189] λh6=>.FH 1 1 p h6 λh7=>.rr [h7]))))
def dE:EB cx 222 Í:=λ_ _=>AA
def aB0(p q r:Aa):IT:=
 .cells 1 r λa=>.ca 266 [q] λb=>.cells 1 b λc=>.ca 203 [p,.func (.func 267) [] [.BR [g a 0],.BR [g c 0]]] λd=>.ih [d,I 0] λe=>.AD e (.ld (.BR [g a 0]) λf=>.BP p 0 λ_ _ h=>.ea 4 [h,d] λj=>.load (some 4) j λk=>.D3 f [k] λm=>.rr [m]) (.rr [ff])
def wD:QB cx 223 aB0:=λ_ _ _=>AA
def aB1(p q:Aa):IT:=
 .cells 4 p λa=>.ld q λb=>.ca 170 [a4 a,b] λc=>.rr [c]
def wE:EB cx 224 aB1:=λ_ _=>AA
def aB2(p q r:Aa):IT:=
 .fa q 3 λ_ a=>.fl a 0 λ_ b=>.ca 121 [b] λc=>.ia [r,I 1] λd=>.ca 268 [c,r,d] λe=>.fa q 3 λ_ f=>.op (.Fb 0) [f] λh=>.store 1 h e (.BP p 3 λ_ _ j=>.il [r,j] λk=>.AD k (.BP p 3 λ_ _ m=>.ib [m,I 1] λn=>.fa p 3 λ_ o=>.store 1 o n (.BP p 4 λ_ _ s=>.il [r,s] λu=>.AD u (.BP p 4 λ_ _ w=>.ib [w,I 1] λy=>.fa p 4 λ_ z=>.store 1 z y (.H7 3 q (.rr [.tuple []]))) (.H7 3 q (.rr [.tuple []])))) (.BP p 4 λ_ _ a0=>.il [r,a0] λa1=>.AD a1 (.BP p 4 λ_ _ a2=>.ib [a2,I 1] λa5=>.fa p 4 λ_ a7=>.store 1 a7 a5 (.H7 3 q (.rr [.tuple []]))) (.H7 3 q (.rr [.tuple []]))))
def wF:QB cx 225 aB2:=λ_ _ _=>AA
def aB3(p q:Aa):IT:=
 .ca 120 [p,q] λa=>.ia [a,I 1] λb=>.loop 3 [I 0,b] (λc=>.ih [a,I 0] λd=>.AD d (.ca 131 [p] λe=>.il [g c 1,e] λf=>.AD f (.BP p 0 λ_ _ h=>.ea 4 [h,g c 1] λj=>.fl j 1 λ_ k=>.BP p 0 λ_ _ m=>.ea 4 [m,g c 1] λn=>.fl n 2 λ_ o=>.Bn 136 [k,o] λs=>.AD s (.rr [g c 1,g c 1]) (.ia [g c 1,I 1] λu=>.rn [g c 0,u])) (.rx 0 [g c 0,g c 1])) (.rx 0 [g c 0,g c 1])) (lx 0 (λw=>.rr [I (-1)]) λw=>.rr [g w 0])
def wG:EB cx 226 aB3:=λ_ _=>AA
def aB4(p q r u:Aa):IT:=
 .ib [u,I 1] λa=>.loop 2 [I 0,a] (λb=>.ig [g b 1,r] λc=>.AD c (.fa p 2 λ_ d=>.ca 132 [d,g b 1] λe=>.cells 4 e λf=>.ia [g b 0,I 1] λh=>.fa p 3 λ_ j=>.ca 156 [j,g f 0] λk=>.FZ 200007 (.ig [h,I 3] λm=>.AD m (.ih [k,I 0] λn=>.rn [n]) (.rn [ff])) (λx o=>match x with| .normal=>.FZ 100039 (.AD (g o 0) (.ca 225 [q,p,k] λ_=>.fa p 3 λ_ s=>.ca 156 [s,g f 0] λw=>.rn [w]) (.rn [k])) (λx y=>match x with| .normal=>.il [g y 0,I 0] λz=>.AD z (.fa p 2 λ_ a0=>.ca 186 [a0,g f 0] λ_=>.ib [g b 1,I 1] λa1=>.rn [h,a1]) (.fa p 3 λ_ a2=>.fl a2 0 λ_ a5=>.ea 3 [a5,g y 0] λa7=>.load (some 3) a7 λa8=>.cells 3 a8 λb0=>.fa q 5 λ_ b1=>.fl b1 0 λb2 b3=>.ca 122 [a3 b0] λb4=>.ld b2 λb5=>.same b3 b5 (.ca 67 [p,b4,I 1,b3] λb6=>.cells 4 b6 λb7=>.fa p 2 λ_ b8=>.ca 269 [b8,g f 0,a4 b7] λ_=>.fa p 3 λ_ b9=>.op (.B6 [I 0,S [],.slnil] [(0,1),(1,1),(2,1)]) [g b7 0,g b0 1,g b0 2] λc0=>.ca 270 [b9,g f 0,c0] λ_=>.BP q 13 λ_ _ c2=>.fa q 9 λ_ c3=>.fl c3 0 λ_ c4=>.ie [c2,c4] λc5=>.FZ 100104 (.AD c5 (.ia [g y 0,I 1] λc7=>.fa q 4 λ_ c8=>.store 1 c8 c7 (.rn [])) (.rn [])) (λx _=>match x with| .normal=>.BP q 13 λ_ _ c9=>.ca 96 [p,c9,g b7 0,I 0] λ_=>.fa q 13 λ_ d0=>.store 1 d0 (g b7 0) (.ib [g b 1,I 1] λd1=>.rn [h,d1])| .exit i=>if i=1 then .ib [g b 1,I 1] λd2=>.rn [h,d2] else .ret (.exit i) [h,g b 1]| .ret=>.rr [h,g b 1])))| .exit i=>if i=1 then .ib [g b 1,I 1] λd3=>.rn [h,d3] else .ret (.exit i) [h,g b 1]| .ret=>.rr [h,g b 1])| .exit i=>if i=1 then .ib [g b 1,I 1] λd4=>.rn [h,d4] else .ret (.exit i) [h,g b 1]| .ret=>.rr [h,g b 1])) (.rx 0 [g b 0,g b 1])) (lx 0 (λd5=>.rr [.tuple []]) λd5=>.rr [.tuple []])
def wH:Tq4 cx 227 aB4:=λ_ _ _ _=>AA
def aB5(p q r:Aa):IT:=
 .cells 3 q λa=>.op (.Qp true) [p,.ptr none] λb=>.AD b (.BP p 0 λ_ c d=>.op (.K4 true) [r,I 0] λe=>.BP p 0 λ_ f h=>.ln [h] λj=>.op (.K4 false) [e,j] λk=>.ca 221 [a3 a] λm=>.ld f λn=>.same h n (.ld c λo=>.same d o (.ca 164 [d,m,k] λs=>.fa p 0 λ_ u=>.store 1 u s (.rr [.tuple []])))) (.rr [.tuple []])
def wI:QB cx 228 aB5:=λ_ _ _=>AA
def aB6(p q r:Aa):IT:=
 .cells 4 q λa=>.op (.Qp true) [p,.ptr none] λb=>.AD b (.BP p 0 λ_ _ c=>.op (.K4 true) [r,I 1] λd=>.BP p 0 λ_ _ e=>.ln [e] λf=>.op (.K4 false) [d,f] λh=>.ca 215 [c,a4 a,h] λj=>.fa p 0 λ_ k=>.store 1 k j (.rr [.tuple []])) (.rr [.tuple []])
def wJ:QB cx 229 aB6:=λ_ _ _=>AA
def aB7:IT:=
 .op (.B6 [S [],I 0] [(0,1),(1,1)]) [S [116,114],I 14] λa=>.op (.B6 [S [],I 0] [(0,1),(1,1)]) [S aUn,I 13] λb=>.op (.B6 [S [],I 0] [(0,1),(1,1)]) [S aUo,I 13] λc=>.op (.B6 [S [],I 0] [(0,1),(1,1)]) [S aUm,I 13] λd=>.op (.B6 [S [],I 0] [(0,1),(1,1)]) [S aT0,I 11] λe=>.op (.B6 [S [],I 0] [(0,1),(1,1)]) [S aUe,I 12] λf=>.op (.B6 [S [],I 0] [(0,1),(1,1)]) [S aTO,I 9] λh=>.op (.B6 [S [],I 0] [(0,1),(1,1)]) [S aTF,I 7] λj=>.op (.B6 [S [],I 0] [(0,1),(1,1)]) [S aTJ,I 20] λk=>.op (.Ch 2) [a,b,c,d,e,f,h,j,k] λm=>.rr [m]
def wK:B4 cx 230 []=aB7:=AA
def aB8(p q:Aa):IT:=
 .ib [q,I 1] λa=>.loop 2 [I 0,a] (λb=>.ih [g b 1,I 0] λc=>.AD c (.fa p 2 λ_ d=>.ca 132 [d,g b 1] λe=>.op (.Ch 1) [S aTz] λf=>.ca 133 [e,f] λh=>.AD h (.rx 0 [g b 0,g b 1]) (.fa p 2 λ_ j=>.ca 132 [j,g b 1] λk=>.op (.Ch 1) [S aTO] λm=>.ca 133 [k,m] λn=>.AD n (.rr [I 17,g b 1]) (.ib [g b 1,I 1] λo=>.rn [g b 0,o]))) (.rx 0 [g b 0,g b 1])) (lx 0 (λs=>.rr [I 16]) λs=>.rr [g s 0])
def wL:EB cx 231 aB8:=λ_ _=>AA
def aB9(p:Aa):IT:=
 .ln [p] λa=>.loop 3 [.slnil,ff,.slnil,I 0] (λb=>.il [g b 3,a] λc=>.AD c (.ea 3 [p,g b 3] λd=>.load (some 3) d λe=>.cells 3 e λf=>.op (.Ch 1) [g f 0] λh=>.ca 238 [h] λj=>.nt [j] λk=>.AD k (.rr [.slnil,ff,g b 2,g b 3]) (.ca 159 [g b 2,.func (.func 271) [] [.BR [g f 0,g f 1,g f 2]]] λm=>.nt [m] λn=>.AD n (.load (some 3) (.BR [g f 0,g f 1,g f 2]) λo=>.op (.Ch 3) [o] λs=>.op (.append 3 40) [g b 2,s] λu=>.ia [g b 3,I 1] λw=>.rn [g b 0,g b 1,u,w]) (.ia [g b 3,I 1] λy=>.rn [g b 0,g b 1,g b 2,y]))) (.rx 0 [g b 0,g b 1,g b 2,g b 3])) (lx 0 (λz=>.rr [.tuple [g z 2,tt]]) λz=>.rr [.tuple [g z 0,g z 1]])
def wM:FC cx 232 aB9:=λ_=>AA
def aCa(p q:Aa):IT:=
 .cells 4 p λa=>.ld q λb=>.op (.Ch 1) [b] λc=>.ca 170 [a4 a,c] λd=>.rr [d]
def wN:EB cx 233 aCa:=λ_ _=>AA
def aCb(p:Aa):IT:=
 .cells 4 p λa=>.iq [g a 1,I 1] λb=>.AD b (.rr [tt]) (.Bn 235 [g a 2] λc=>.nt [c] λd=>.rr [d])
def wO:FC cx 234 aCb:=λ_=>AA
def aCc(p:Aa):IT:=
 .se [p,S aT0] λa=>.AD a (.rr [tt]) (.se [p,S aUe] λb=>.AD b (.rr [tt]) (.se [p,S aUn] λc=>.AD c (.rr [tt]) (.se [p,S [116,100]] λd=>.AD d (.rr [tt]) (.se [p,S aUm] λe=>.AD e (.rr [tt]) (.se [p,S [116,104]] λf=>.AD f (.rr [tt]) (.se [p,S aUo] λh=>.AD h (.rr [tt]) (.se [p,S [116,114]] λj=>.AD j (.rr [tt]) (.Bn 208 [p] λk=>.rr [k]))))))))
def wQ:FC cx 235 aCc:=λ_=>AA
def aCd(p:Aa):IT:=
 .Bn 237 [p,S aTs] λa=>.rr [a]
def wR:FC cx 236 aCd:=λ_=>AA
def aCe(p q:Aa):IT:=
 .ca 253 [q] λa=>.ln [a] λb=>.loop 2 [S [],I 0] (λc=>.il [g c 1,b] λd=>.AD d (.ea 1 [a,g c 1] λe=>.ld e λf=>.Bn 247 [f] λh=>.se [h,p] λj=>.AD j (.rr [f,g c 1]) (.ia [g c 1,I 1] λk=>.rn [g c 0,k])) (.rx 0 [g c 0,g c 1])) (lx 0 (λm=>.rr [p]) λm=>.rr [g m 0])
def wS:EB cx 237 aCe:=λ_ _=>AA
def aCf(p:Aa):IT:=
 .ln [p] λa=>.loop 2 [ff,I 0] (λb=>.il [g b 1,a] λc=>.AD c (.ea 1 [p,g b 1] λd=>.ld d λe=>.il [e,I 0] λf=>.AD f (.rr [ff,g b 1]) (.ig [e,I 7] λh=>.AD h (.rr [ff,g b 1]) (.ia [g b 1,I 1] λj=>.rn [g b 0,j]))) (.rx 0 [g b 0,g b 1])) (lx 0 (λk=>.rr [tt]) λk=>.rr [g k 0])
def wT:FC cx 238 aCf:=λ_=>AA
def aCg(p:Aa):IT:=
 .fa p 0 λ_ a=>.fl a 0 λ_ b=>.ie [b,I 4] λc=>.AD c (.fa p 0 λ_ d=>.fl d 4 λ_ e=>.ie [e,I 1] λf=>.AD f (.fa p 0 λ_ h=>.fl h 5 λ_ j=>.se [j,S aTz] λk=>.rr [k]) (.rr [ff])) (.rr [ff])
def wU:FC cx 239 aCg:=λ_=>AA
def rq(p q:Aa):IT:=
 .BP p 1 λ_ _ a=>.mem (.gx i0 true) [a,q] λb=>.op (.ext 0) [b] λc=>.op (.ext 1) [b] λd=>.AD d (.rr [c]) (.ca 49 [p,ff] λe=>.BP p 1 λ_ _ f=>.op (.Ga false .mp) [f,.map none] λh=>.AD h (.MX λj=>.fa p 1 λ_ k=>.store 1 k j (.BP p 1 λ_ _ m=>.BP p 1 λ_ _ n=>.mem (.Nt i0) [m,q] λo=>.op (.ext 1) [o] λs=>.mem .J5 [m,s,e] λ_=>.mem (.Nt i0) [n,e] λu=>.op (.ext 1) [u] λw=>.mem .J5 [n,w,e] λ_=>.rr [e])) (.BP p 1 λ_ _ y=>.BP p 1 λ_ _ z=>.mem (.Nt i0) [y,q] λa0=>.op (.ext 1) [a0] λa1=>.mem .J5 [y,a1,e] λ_=>.mem (.Nt i0) [z,e] λa2=>.op (.ext 1) [a2] λa5=>.mem .J5 [z,a5,e] λ_=>.rr [e]))
def Vu:EB cx 240 rq:=λ_ _=>AA
def Î(p:Aa):IT:=
 .cells 1 p λa=>.rr [.func (.func 272) [] [.BR [g a 0]]]
def dF:FC cx 241 Î:=λ_=>AA
def r_(p q:Aa):IT:=
 .cells 1 p λa=>.cells 1 q λb=>.rr [.func (.func 273) [] [.BR [g a 0],.BR [g b 0]]]
def Vv:EB cx 242 r_:=λ_ _=>AA
def aCh(p q r:Aa):IT:=
 .ln [p] λa=>.mem (.lZ 1) [p,q,r,a] λ_=>.ie [q,r] λb=>.AD b (.rr [p]) (.ln [p] λc=>.op (.OM 1 false false true) [p,q] λd=>.op (.OM 1 false true false) [p,r] λe=>.FH 1 8 d e λf=>.ln [f] λh=>.mem (.zA 1 true true) [f,h,c] λj=>.mem (.clear 1 [I 0]) [j] λ_=>.rr [f])
def wV:QB cx 244 aCh:=λ_ _ _=>AA
def aCi(p:Aa):IT:=
 .EN p λa=>.ln [a] λb=>.loop 3 [I 0] (λc=>.il [g c 0,b] λd=>.AD d (.ea 1 [a,g c 0] λe=>.ld e λf=>.op (.conv .i32) [f] λh=>.Bn 276 [h] λj=>.AD j (.ib [f,.int .u8 65] λk=>.ia [k,.int .u8 97] λm=>.ea 1 [a,g c 0] λn=>.store 1 n m (.ia [g c 0,I 1] λo=>.rn [o])) (.ia [g c 0,I 1] λs=>.rn [s])) (.rx 0 [g c 0])) (lx 0 (λu=>.UI a λw=>.op .X8 [w] λy=>.rr [y]) λu=>.rr [S []])
def wW:FC cx 247 aCi:=λ_=>AA
def aCj(p q:Aa):IT:=
 .ln [p] λa=>.loop 2 [I 0,I 0] (λb=>.il [g b 1,a] λc=>.AD c (.ea 1 [p,g b 1] λd=>.ld d λe=>.D3 q [e] λf=>.AD f (.rr [g b 1,g b 1]) (.ia [g b 1,I 1] λh=>.rn [g b 0,h])) (.rx 0 [g b 0,g b 1])) (lx 0 (λj=>.rr [I (-1)]) λj=>.rr [g j 0])
def wX:EB cx 248 aCj:=λ_ _=>AA
def aCk(p q:Aa):IT:=
 .op (.OM 4 false false true) [p,q] λa=>.op (.append 4 40) [.slnil,a] λb=>.ia [q,I 1] λc=>.op (.OM 4 false true false) [p,c] λd=>.op (.append 4 40) [b,d] λe=>.rr [e]
def wY:EB cx 249 aCk:=λ_ _=>AA
def Ï(p q:Aa):IT:=
 .ca 140 [p,q] λa=>.nt [a] λb=>.AD b (.rr [I 0]) (.ca 144 [p,q] λc=>.fa c 0 λ_ d=>.fl d 1 λ_ e=>.rr [e])
def dG:EB cx 250 Ï:=λ_ _=>AA
def aCl(p q:Aa):IT:=
 .ln [p] λa=>.loop 2 [I 0,I 0] (λb=>.il [g b 1,a] λc=>.AD c (.ea 1 [p,g b 1] λd=>.ld d λe=>.D3 q [e] λf=>.AD f (.rr [g b 1,g b 1]) (.ia [g b 1,I 1] λh=>.rn [g b 0,h])) (.rx 0 [g b 0,g b 1])) (lx 0 (λj=>.rr [I (-1)]) λj=>.rr [g j 0])
def wZ:EB cx 251 aCl:=λ_ _=>AA
def Ð(p:Aa):IT:=
 .op (.Ga false .sl) [p,.slnil] λa=>.AD a (.rr [.slnil]) (.op (.Ch 1) [] λb=>.FX 1 8 b p λc=>.rr [c])
def dH:FC cx 252 Ð:=λ_=>AA
def aCm(p:Aa):IT:=
 .loop 5 [I 0,I 1,.int .u8 0,I 0] (λa=>.lt [p] λb=>.il [g a 3,b] λc=>.AD c (.op .Rz [p,g a 3] λd=>.op (.int .or) [g a 2,d] λe=>.op (.T1 256 1) [.BR GH,d] λf=>.ld f λh=>.op (.conv .i64) [h] λj=>.op (.un .xor) [j] λk=>.op (.int .and) [g a 1,k] λm=>.ia [g a 0,m] λn=>.ia [g a 3,I 1] λo=>.rn [n,j,e,o]) (.rx 0 [g a 0,g a 1,g a 2,g a 3])) (lx 0 (λs=>.ih [g s 2,.int .u8 128] λu=>.AD u (.ca 277 [p,.func (.func 278) [] []] λw=>.UI w λy=>.rr [y]) (.make 1 16 [S []] (g s 0) (g s 0) λz=>.loop 18 [I 0] (λa0=>.lt [p] λa1=>.il [g a0 0,a1] λa2=>.AD a2 (.op .Rz [p,g a0 0] λa5=>.op (.T1 256 1) [.BR GH,a5] λa7=>.ld a7 λa8=>.iq [a8,.int .u8 0] λb0=>.AD b0 (.ia [g a0 0,I 1] λb1=>.rn [b1]) (.rx 2 [g a0 0])) (.rx 2 [g a0 0])) (lx 2 (λb2=>.loop 21 [I 0,g b2 0,g b2 0] (λb3=>.lt [p] λb4=>.il [g b3 2,b4] λb5=>.AD b5 (.op .Rz [p,g b3 2] λb6=>.op (.T1 256 1) [.BR GH,b6] λb7=>.ld b7 λb8=>.ie [b8,.int .u8 0] λb9=>.AD b9 (.ia [g b3 2,I 1] λc1=>.rn [g b3 0,g b3 1,c1]) (.op (.OM 0 true true true) [p,g b3 1,g b3 2] λc2=>.ea 1 [z,g b3 0] λc3=>.store 1 c3 c2 (.ia [g b3 0,I 1] λc4=>.ia [g b3 2,I 1] λc5=>.loop 27 [c5] (λc6=>.lt [p] λc7=>.il [g c6 0,c7] λc8=>.AD c8 (.op .Rz [p,g c6 0] λc9=>.op (.T1 256 1) [.BR GH,c9] λd0=>.ld d0 λd1=>.iq [d1,.int .u8 0] λd2=>.AD d2 (.ia [g c6 0,I 1] λd3=>.rn [d3]) (.rx 6 [g c6 0])) (.rx 6 [g c6 0])) (λx d4=>match x with| .normal=>.fail| .exit i=>if i=6 then .rn [c4,g d4 0,g d4 0] else if i=5 then .rn [c4,g b3 1,g d4 0] else .ret (.exit i) [c4,g b3 1,g d4 0]| .ret=>.rr [c4,g b3 1,g d4 0])))) (.rx 4 [g b3 0,g b3 1,g b3 2])) (lx 4 (λd5=>.lt [p] λd6=>.il [g d5 1,d6] λd7=>.AD d7 (.op (.OM 0 true true false) [p,g d5 1] λd8=>.ea 1 [z,g d5 0] λd9=>.store 1 d9 d8 (.UI z λe0=>.rr [e0])) (.UI z λe1=>.rr [e1])) λd5=>.UI .slnil λe2=>.rr [e2])) λb2=>.UI .slnil λe3=>.rr [e3]))) λs=>.UI .slnil λe4=>.rr [e4])
def xA:FC cx 253 aCm:=λ_=>AA
def aCn(p q:Aa):IT:=
 .cells 4 p λa=>.ld q λb=>.ie [g a 0,b] λc=>.rr [c]
def xB:EB cx 254 aCn:=λ_ _=>AA
def aCo(p q:Aa):IT:=
 .ln [p] λa=>.loop 2 [I 0,I 0] (λb=>.il [g b 1,a] λc=>.AD c (.ea 1 [p,g b 1] λd=>.ld d λe=>.se [q,e] λf=>.AD f (.rr [g b 1,g b 1]) (.ia [g b 1,I 1] λh=>.rn [g b 0,h])) (.rx 0 [g b 0,g b 1])) (lx 0 (λj=>.rr [I (-1)]) λj=>.rr [g j 0])
def xC:EB cx 255 aCo:=λ_ _=>AA
def aCp(p q:Aa):IT:=
 .cells 1 q λa=>.ca 159 [p,.func (.func 264) [] [.BR [g a 0]]] λb=>.nt [b] λc=>.rr [c]
def xD:EB cx 263 aCp:=λ_ _=>AA
def aCq(p q:Aa):IT:=
 .cells 3 p λa=>.ld q λb=>.ca 265 [b,a3 a] λc=>.nt [c] λd=>.rr [d]
def xE:EB cx 264 aCq:=λ_ _=>AA
def aCr(p q:Aa):IT:=
 .cells 3 q λa=>.ca 287 [p,a3 a] λb=>.ih [b,I 0] λc=>.rr [c]
def xF:EB cx 265 aCr:=λ_ _=>AA
def sd(p:Aa):IT:=
 .cells 1 p λa=>.ie [g a 0,I 4] λb=>.AD b (.rr [.func (.func 288) [] []]) (.ie [g a 0,I 5] λc=>.AD c (.rr [.func (.func 289) [] []]) (.rr [.func (.func 290) [] [.BR [g a 0]]]))
def Vw:FC cx 266 sd:=λ_=>AA
def aCs(p q r:Aa):IT:=
 .cells 4 p λa=>.ld q λb=>.D3 b [a4 a] λc=>.AD c (.rr [tt]) (.ld r λd=>.D3 d [a4 a] λe=>.rr [e])
def xG:QB cx 267 aCs:=λ_ _ _=>AA
def aCt(p q r:Aa):IT:=
 .ln [p] λa=>.mem (.lZ 3) [p,q,r,a] λ_=>.ie [q,r] λb=>.AD b (.rr [p]) (.ln [p] λc=>.op (.OM 3 false false true) [p,q] λd=>.op (.OM 3 false true false) [p,r] λe=>.FH 3 48 d e λf=>.ln [f] λh=>.mem (.zA 3 true true) [f,h,c] λj=>.mem (.clear 3 [I 0,S [],.slnil]) [j] λ_=>.rr [f])
def xH:QB cx 268 aCt:=λ_ _ _=>AA
def Ñ(p q r:Aa):IT:=
 .cells 4 r λa=>.ca 120 [p,q] λb=>.il [b,I 1] λc=>.AD c (.H7 0 p (.rr [ff])) (.BP p 0 λ_ _ d=>.ca 291 [d] λe=>.fa p 0 λ_ f=>.store 1 f e (.BP p 0 λ_ _ h=>.ea 4 [h,b] λj=>.store 4 j (a4 a) (.H7 0 p (.rr [tt]))))
def dI:QB cx 269 Ñ:=λ_ _ _=>AA
def Ò(p q r:Aa):IT:=
 .cells 3 r λa=>.ca 156 [p,q] λb=>.il [b,I 0] λc=>.AD c (.H7 0 p (.rr [ff])) (.BP p 0 λ_ _ d=>.ca 121 [d] λe=>.fa p 0 λ_ f=>.store 1 f e (.BP p 0 λ_ h j=>.ca 221 [a3 a] λk=>.ld h λm=>.same j m (.ea 3 [j,b] λn=>.store 3 n k (.H7 0 p (.rr [tt])))))
def dJ:QB cx 270 Ò:=λ_ _ _=>AA
def aCu(p q:Aa):IT:=
 .cells 3 p λa=>.fl q 0 λ_ b=>.ie [b,g a 0] λc=>.AD c (.fl q 1 λ_ d=>.se [d,g a 1] λe=>.rr [e]) (.rr [ff])
def xI:EB cx 271 aCu:=λ_ _=>AA
def aCv(p q:Aa):IT:=
 .ld q λa=>.ln [a] λb=>.loop 2 [ff,I 0] (λc=>.il [g c 1,b] λd=>.AD d (.ea 1 [a,g c 1] λe=>.ld e λf=>.D3 f [p] λh=>.AD h (.rr [tt,g c 1]) (.ia [g c 1,I 1] λj=>.rn [g c 0,j])) (.rx 0 [g c 0,g c 1])) (lx 0 (λk=>.rr [ff]) λk=>.rr [g k 0])
def xJ:EB cx 272 aCv:=λ_ _=>AA
def Ó(p q r:Aa):IT:=
 .ld q λa=>.ik [a,p] λb=>.AD b (.ld r λc=>.ik [p,c] λd=>.rr [d]) (.rr [ff])
def dK:QB cx 273 Ó:=λ_ _ _=>AA
def aCw(p:Aa):IT:=
 .ca 242 [.int .i32 65,.int .i32 90] λa=>.D3 a [p] λb=>.rr [b]
def xK:FC cx 276 aCw:=λ_=>AA
def aFM(p q:Aa):IT:=
 .make 2 16 [I 0,I 0] i0 (I 32) λ_=>.fail
def Ô:EB cx 277 aFM:=λ_ _=>AA
def aCx(p q:Aa):IT:=
 .cells 3 q λa=>.ln [p] λb=>.loop 2 [I 0,I 0] (λc=>.il [g c 1,b] λd=>.AD d (.ea 3 [p,g c 1] λe=>.load (some 3) e λf=>.op (.geq false [.i,.s,.s]) [a3 a,f] λh=>.AD h (.rr [g c 1,g c 1]) (.ia [g c 1,I 1] λj=>.rn [g c 0,j])) (.rx 0 [g c 0,g c 1])) (lx 0 (λk=>.rr [I (-1)]) λk=>.rr [g k 0])
def xL:EB cx 287 aCx:=λ_ _=>AA
def aCy(p:Aa):IT:=
 .cells 4 p λa=>.op (.Ch 1) [S aTA,S aTO,S aTz] λb=>.ca 170 [a4 a,b] λc=>.rr [c]
def xM:FC cx 288 aCy:=λ_=>AA
def aCz(p:Aa):IT:=
 .cells 4 p λa=>.op (.Ch 1) [S aUc,S aTT] λb=>.ca 170 [a4 a,b] λc=>.nt [c] λd=>.rr [d]
def xN:FC cx 289 aCz:=λ_=>AA
def aCA(p q:Aa):IT:=
 .cells 4 p λa=>.ie [g a 1,I 3] λb=>.AD b (.Bn 136 [g a 1,g a 2] λc=>.rr [c]) (.ie [g a 1,I 2] λd=>.AD d (.Bn 136 [g a 1,g a 2] λe=>.rr [e]) (.op (.Ch 1) [S aUQ,S aT0,S aTA,S aUH,S aUW,S aTO,S [116,100],S aTz,S [116,104]] λf=>.ca 170 [a4 a,f] λh=>.AD h (.rr [tt]) (.ld q λj=>.ie [j,I 2] λk=>.AD k (.op (.Ch 1) [S [111,108],S [117,108]] λm=>.ca 170 [a4 a,m] λn=>.AD n (.rr [tt]) (.ld q λo=>.ie [o,I 3] λs=>.AD s (.op (.Ch 1) [S aTC] λu=>.ca 170 [a4 a,u] λw=>.rr [w]) (.rr [ff]))) (.ld q λy=>.ie [y,I 3] λz=>.AD z (.op (.Ch 1) [S aTC] λa0=>.ca 170 [a4 a,a0] λa1=>.rr [a1]) (.rr [ff])))))
def xO:EB cx 290 aCA:=λ_ _=>AA
def aCB(p:Aa):IT:=
 .op (.Ga false .sl) [p,.slnil] λa=>.AD a (.rr [.slnil]) (.op (.Ch 4) [] λb=>.Je 4 40 b p λc=>.rr [c])
def xP:FC cx 291 aCB:=λ_=>AA
def xQ(p:Aa):IT:=
 .BP p 6 λ_ _ a=>.ln [a] λb=>.ig [b,I 0] λc=>.AD c (.BP p 6 λ_ _ d=>.ib [b,I 1] λe=>.op (.OM 1 false false true) [d,e] λf=>.ca 200080 [f] λh=>.fa p 6 λ_ j=>.store 1 j h (.rr [.tuple []])) (.rr [.tuple []])
def pF:FC cx 100084 xQ:=λ_=>AA
def Vx(p:Aa):IT:=
 .op (.Ga false .sl) [p,.slnil] λa=>.AD a (.rr [.slnil]) (.op (.Ch 3) [] λb=>.Je 3 40 b p λc=>.rr [c])
def Ri:FC cx 100088 Vx:=λ_=>AA
def xR(p:Aa):IT:=
 .op (.Ga false .sl) [p,.slnil] λa=>.AD a (.rr [.slnil]) (.op (.H5 1) [] λb=>.Je 1 8 b p λc=>.rr [c])
def pG:FC cx 200080 xR:=λ_=>AA
end Go.Am
