/- Lemmas -/
import Derived.Test.YtefjamneieebhaaGreatDoorS10
import Derived.Test.YtefjamneieebhaaGreatDoorS18
set_option linter.unusedVariables false
set_option linter.unusedSimpArgs false
namespace Go.Am
open Go
def aFp(p:Aa):IT:=
 .Bc 266 [S aSm,p] λa=>.rr [a]
theorem np:GL cx 202 aFp:=λ_=>by kernel_rfl
def aFq(p q:Aa):IT:=
 .cells 13 p λa=>.cells 13 q λb=>.call 267 [WM a,WM b] λc=>.AH c (.call 28 [g a 2,g b 2] λd=>.AH d (.ie [g a 1,g b 1] λe=>.AH e (.ie [g a 3,g b 3] λf=>.AH f (.ie [g a 11,g b 11] λh=>.AH h (.ie [g a 12,g b 12] λj=>.rr [j]) (.rr [ff])) (.rr [ff])) (.rr [ff])) (.rr [ff])) (.rr [ff])
theorem nr:DR cx 203 aFq:=λ_ _=>by kernel_rfl
def aBd(p:Aa):IT:=
 .fa p 0 λ_ a=>.load (some 13) a λb=>.cells 13 b λc=>.fa p 0 λ_ d=>.fl d 2 λ_ e=>.fa p 0 λ_ f=>.fl f 6 λh j=>.call 215 [e] λk=>.ld h λm=>.same j m (.call 100063 [j] λn=>.cells 1 k λo=>.cells 1 n λs=>.cells 13 (.agg [g c 0,g c 1,g o 0,g c 3,g c 4,g c 5,g s 0,g c 7,g c 8,g c 9,g c 10,g c 11,g c 12]) λu=>.rr [WM u])
theorem nQ:GL cx 204 aBd:=λ_=>by kernel_rfl
def aFr(p:Aa):IT:=
 .cells 13 p λa=>.op (.append 1 8) [.slnil,g a 2] λb=>.cells 1 b λc=>.op (.append 3 40) [.slnil,g a 6] λd=>.cells 1 d λe=>.cells 13 (.agg [g a 0,g a 1,g c 0,g a 3,g a 4,g a 5,g e 0,g a 7,g a 8,g a 9,g a 10,g a 11,g a 12]) λf=>.rr [WM f]
theorem nu:GL cx 205 aFr:=λ_=>by kernel_rfl
def aBe(p q:Aa):IT:=
 .ln [p] λa=>.loop 2 [I 0,I 0] (λb=>.il [g b 1,a] λc=>.AH c (.ea 1 [p,g b 1] λd=>.ld d λe=>.se [q,e] λf=>.AH f (.rr [g b 1,g b 1]) (.ia [g b 1,I 1] λh=>.rn [g b 0,h])) (.rx 0 [g b 0,g b 1])) (lx 0 (λj=>.rr [I (-1)]) λj=>.rr [g j 0])
theorem nS:DR cx 206 aBe:=λ_ _=>by kernel_rfl
def aBf(p q:Aa):IT:=
 .call 44 [p] λa=>.ib [a,I 1] λb=>.loop 2 [I 0,b] (λc=>.ih [g c 1,I 0] λd=>.AH d (.BY p 0 λ_ _ e=>.ea 4 [e,g c 1] λf=>.load (some 4) f λh=>.FF q [h] λj=>.AH j (.rr [g c 1,g c 1]) (.ib [g c 1,I 1] λk=>.rn [g c 0,k])) (.rx 0 [g c 0,g c 1])) (lx 0 (λm=>.rr [I (-1)]) λm=>.rr [g m 0])
theorem nT:DR cx 207 aBf:=λ_ _=>by kernel_rfl
def aBg(p q:Aa):IT:=
 .cells 4 p λa=>.ld q λb=>.ie [g a 0,b] λc=>.rr [c]
theorem nU:DR cx 208 aBg:=λ_ _=>by kernel_rfl
def aBh(p q r:Aa):IT:=
 .ln [p] λa=>.mem (.eQ 3) [p,q,r,a] λ_=>.ie [q,r] λb=>.AH b (.rr [p]) (.ln [p] λc=>.op (.Hq 3 false false true) [p,q] λd=>.op (.Hq 3 false true false) [p,r] λe=>.FE 3 48 d e λf=>.ln [f] λh=>.mem (.qG 3 true true) [f,h,c] λj=>.mem (.clear 3 [I 0,S [],.slnil]) [j] λ_=>.rr [f])
theorem nV:Lt cx 209 aBh:=λ_ _ _=>by kernel_rfl
def aBi(p q r:Aa):IT:=
 .cells 1 r λa=>.call 268 [q] λb=>.cells 1 b λc=>.call 207 [p,.func (.func 269) [] [.CA [g a 0],.CA [g c 0]]] λd=>.ih [d,I 0] λe=>.AH e (.ld (.CA [g a 0]) λf=>.BY p 0 λ_ _ h=>.ea 4 [h,d] λj=>.load (some 4) j λk=>.FF f [k] λm=>.rr [m]) (.rr [ff])
theorem nW:Lt cx 210 aBi:=λ_ _ _=>by kernel_rfl
def aBj(p q:Aa):IT:=
 .cells 4 p λa=>.ld q λb=>.ie [g a 0,b] λc=>.rr [c]
theorem nX:DR cx 211 aBj:=λ_ _=>by kernel_rfl
def aBk(p q:Aa):IT:=
 .cells 4 p λa=>.ld q λb=>.ie [g a 0,b] λc=>.rr [c]
theorem nY:DR cx 212 aBk:=λ_ _=>by kernel_rfl
def nv(p q r:Aa):IT:=
 .cells 4 r λa=>.call 111 [p,q] λb=>.il [b,I 1] λc=>.AH c (.Hr 0 p (.rr [ff])) (.BY p 0 λ_ _ d=>.call 270 [d] λe=>.fa p 0 λ_ f=>.store 1 f e (.BY p 0 λ_ _ h=>.ea 4 [h,b] λj=>.store 4 j (a4 a) (.Hr 0 p (.rr [tt]))))
theorem Ze:Lt cx 213 nv:=λ_ _ _=>by kernel_rfl
def ny(p q r:Aa):IT:=
 .cells 3 r λa=>.call 37 [p,q] λb=>.il [b,I 0] λc=>.AH c (.Hr 0 p (.rr [ff])) (.BY p 0 λ_ _ d=>.call 171 [d] λe=>.fa p 0 λ_ f=>.store 1 f e (.BY p 0 λ_ h j=>.call 153 [a3 a] λk=>.ld h λm=>.same j m (.ea 3 [j,b] λn=>.store 3 n k (.Hr 0 p (.rr [tt])))))
theorem Zf:Lt cx 214 ny:=λ_ _ _=>by kernel_rfl
def nz(p:Aa):IT:=
 .op (.GV false .sl) [p,.slnil] λa=>.AH a (.rr [.slnil]) (.op (.Bx 1) [] λb=>.FV 1 8 b p λc=>.rr [c])
theorem Zg:GL cx 215 nz:=λ_=>by kernel_rfl
def aBl(p q:Aa):IT:=
 .op (.Hq 4 false false true) [p,q] λa=>.op (.append 4 40) [.slnil,a] λb=>.ia [q,I 1] λc=>.op (.Hq 4 false true false) [p,c] λd=>.op (.append 4 40) [b,d] λe=>.rr [e]
theorem nZ:DR cx 216 aBl:=λ_ _=>by kernel_rfl
def aBm(p q r:Aa):IT:=
 .cells 4 q λa=>.op (.Hq 4 false false true) [p,r] λb=>.op (.append 4 40) [.slnil,b] λc=>.op (.Bx 4) [a4 a] λd=>.op (.append 4 40) [c,d] λe=>.op (.Hq 4 false true false) [p,r] λf=>.op (.append 4 40) [e,f] λh=>.rr [h]
theorem oA:Lt cx 217 aBm:=λ_ _ _=>by kernel_rfl
def aFs(p q:Aa):IT:=
 .loop 3 [.slnil,I 0] (λa=>.ln [p] λb=>.il [g a 1,b] λc=>.AH c (.iq [g a 1,q] λd=>.AH d (.ea 3 [p,g a 1] λe=>.load (some 3) e λf=>.op (.Bx 3) [f] λh=>.op (.append 3 48) [g a 0,h] λj=>.ia [g a 1,I 1] λk=>.rn [j,k]) (.ia [g a 1,I 1] λm=>.rn [g a 0,m])) (.rx 0 [g a 0,g a 1])) (lx 0 (λn=>.rr [g n 0]) λn=>.rr [.slnil])
theorem n_:DR cx 218 aFs:=λ_ _=>by kernel_rfl
def aFt(p q r:Aa):IT:=
 .ia [q,I 1] λa=>.loop 2 [ff,a] (λb=>.ln [p] λc=>.il [g b 1,c] λd=>.AH d (.ea 4 [p,g b 1] λe=>.load (some 4) e λf=>.call 271 [f,r] λh=>.AH h (.rr [ff,g b 1]) (.ia [g b 1,I 1] λj=>.rn [g b 0,j])) (.rx 0 [g b 0,g b 1])) (lx 0 (λk=>.rr [tt]) λk=>.rr [g k 0])
theorem oa:Lt cx 219 aFt:=λ_ _ _=>by kernel_rfl
def aFu(p q:Aa):IT:=
 .ig [q,I 0] λa=>.AH a (.BY p 0 λ_ _ b=>.ln [b] λc=>.il [q,c] λd=>.rr [d]) (.rr [ff])
theorem ob:DR cx 220 aFu:=λ_ _=>by kernel_rfl
def Tz(p q r u:Aa):IT:=
 .Df 200001 (.call 220 [p,q] λa=>.nt [a] λb=>.AH b (.rn [tt]) (.call 220 [p,r] λc=>.nt [c] λd=>.AH d (.rn [tt]) (.iq [u,I 0] λe=>.AH e (.call 220 [p,u] λf=>.nt [f] λh=>.rn [h]) (.rn [ff])))) (nx (λj=>.AH (g j 0) (.rr [I 3]) (.BY p 0 λ_ _ k=>.ea 13 [k,q] λm=>.fl m 0 λ_ n=>.BY p 0 λ_ _ o=>.ea 13 [o,r] λs=>.fl s 0 λ_ w=>.Df 200004 (.iq [n,I 1] λy=>.AH y (.iq [n,I 2] λz=>.AH z (.iq [n,I 4] λa0=>.rn [a0]) (.rn [ff])) (.rn [ff])) (nx (λa1=>.AH (g a1 0) (.rr [I 4]) (.Df 200006 (.ie [w,I 1] λa2=>.AH a2 (.rn [tt]) (.ie [w,I 2] λa5=>.AH a5 (.rn [tt]) (.call 272 [p,r,q] λa7=>.rn [a7]))) (nx (λa8=>.AH (g a8 0) (.rr [I 4]) (.Df 200008 (.iq [u,I 0] λb0=>.AH b0 (.ie [u,r] λb1=>.AH b1 (.rn [tt]) (.BY p 0 λ_ _ b2=>.ea 13 [b2,u] λb3=>.fl b3 1 λ_ b4=>.iq [b4,q] λb5=>.rn [b5])) (.rn [ff])) (nx (λb6=>.AH (g b6 0) (.rr [I 5]) (.rr [I 0])) λb6=>.rr [I 0]))) λa8=>.rr [I 0]))) λa1=>.rr [I 0]))) λj=>.rr [I 0])
theorem Je:xV cx 221 Tz:=λ_ _ _ _=>by kernel_rfl
def aBn(p q:Aa):IT:=
 .call 220 [p,q] λa=>.nt [a] λb=>.AH b (.rr [I 3]) (.BY p 0 λ_ _ c=>.ea 13 [c,q] λd=>.fl d 1 λ_ e=>.iq [e,I 0] λf=>.AH f (.BY p 0 λ_ h j=>.BY p 0 λ_ _ k=>.ea 13 [k,e] λm=>.fl m 2 λ_ n=>.call 273 [n,q] λo=>.ld h λs=>.same j s (.ea 13 [j,e] λu=>.op (.EC 2) [u] λw=>.store 1 w o (.BY p 0 λ_ _ y=>.ea 13 [y,q] λz=>.op (.EC 1) [z] λa0=>.store 1 a0 i0 (.rr [I 0])))) (.rr [I 0]))
theorem oB:DR cx 222 aBn:=λ_ _=>by kernel_rfl
def aBo(p q:Aa):IT:=
 .cells 4 p λa=>.ld q λb=>.op (.Bx 1) [b] λc=>.call 181 [a4 a,c] λd=>.rr [d]
theorem oC:DR cx 223 aBo:=λ_ _=>by kernel_rfl
def aFv(p q:Aa):IT:=
 .loop 2 [ff,I 0] (λa=>.lt [p] λb=>.il [g a 1,b] λc=>.AH c (.op .RD [p,g a 1] λd=>.ie [d,q] λe=>.AH e (.rr [tt,g a 1]) (.ia [g a 1,I 1] λf=>.rn [g a 0,f])) (.rx 0 [g a 0,g a 1])) (lx 0 (λh=>.rr [ff]) λh=>.rr [g h 0])
theorem od:DR cx 224 aFv:=λ_ _=>by kernel_rfl
def zZ(p q:Aa):IT:=
 .ln [p] λa=>.loop 2 [I 0,I 0] (λb=>.il [g b 1,a] λc=>.AH c (.ea 3 [p,g b 1] λd=>.load (some 3) d λe=>.FF q [e] λf=>.AH f (.rr [g b 1,g b 1]) (.ia [g b 1,I 1] λh=>.rn [g b 0,h])) (.rx 0 [g b 0,g b 1])) (lx 0 (λj=>.rr [I (-1)]) λj=>.rr [g j 0])
theorem T8:DR cx 225 zZ:=λ_ _=>by kernel_rfl
def aBp(p:Aa):IT:=
 .cells 3 p λa=>.ie [g a 0,I 0] λb=>.AH b (.se [g a 1,S aS4] λc=>.rr [c]) (.rr [ff])
theorem oD:GL cx 226 aBp:=λ_=>by kernel_rfl
def aBq(p q:Aa):IT:=
 .Bc 274 [p] λa=>.Bc 274 [q] λb=>.se [a,b] λc=>.rr [c]
theorem oE:DR cx 227 aBq:=λ_ _=>by kernel_rfl
def aBr(p q:Aa):IT:=
 .cells 1 q λa=>.call 174 [p,.func (.func 229) [] [.CA [g a 0]]] λb=>.nt [b] λc=>.rr [c]
theorem oF:DR cx 228 aBr:=λ_ _=>by kernel_rfl
def aBs(p q:Aa):IT:=
 .cells 3 p λa=>.ld q λb=>.call 230 [b,a3 a] λc=>.nt [c] λd=>.rr [d]
theorem oG:DR cx 229 aBs:=λ_ _=>by kernel_rfl
def aBt(p q:Aa):IT:=
 .cells 3 q λa=>.call 275 [p,a3 a] λb=>.ih [b,I 0] λc=>.rr [c]
theorem oH:DR cx 230 aBt:=λ_ _=>by kernel_rfl
def aBu(p q:Aa):IT:=
 .op (.Bx 1) [q] λa=>.call 155 [p,a] λb=>.iq [b,I 0] λc=>.AH c (.rr [b]) (.call 145 [p,q] λd=>.fa d 0 λ_ e=>.fl e 0 λ_ f=>.iq [f,I 1] λh=>.AH h (.rr [I 9]) (.rr [I 0]))
theorem oI:DR cx 231 aBu:=λ_ _=>by kernel_rfl
def aBv(p q:Aa):IT:=
 .ln [p] λa=>.loop 2 [I 0,I 0] (λb=>.il [g b 1,a] λc=>.AH c (.ea 1 [p,g b 1] λd=>.ld d λe=>.FF q [e] λf=>.AH f (.rr [g b 1,g b 1]) (.ia [g b 1,I 1] λh=>.rn [g b 0,h])) (.rx 0 [g b 0,g b 1])) (lx 0 (λj=>.rr [I (-1)]) λj=>.rr [g j 0])
theorem oJ:DR cx 232 aBv:=λ_ _=>by kernel_rfl
def oe(p q:Aa):IT:=
 .call 145 [p,q] λa=>.fa a 0 λ_ b=>.fl b 1 λ_ c=>.ie [c,I 0] λd=>.AH d (.rr [.tuple []]) (.fa a 0 λ_ e=>.fl e 1 λ_ f=>.call 145 [p,f] λh=>.fa h 0 λ_ j=>.fl j 2 λ_ k=>.call 57 [k,q] λm=>.fa h 0 λ_ n=>.fl n 2 λ_ o=>.ia [m,I 1] λs=>.call 277 [o,m,s] λu=>.fa h 0 λ_ w=>.op (.EC 2) [w] λy=>.store 1 y u (.fa a 0 λ_ z=>.op (.EC 1) [z] λa0=>.store 1 a0 i0 (.rr [.tuple []])))
theorem Zh:DR cx 234 oe:=λ_ _=>by kernel_rfl
def aFw(p:Aa):IT:=
 .loop 2 [ff,I 0] (λa=>.ln [p] λb=>.il [g a 1,b] λc=>.AH c (.ea 3 [p,g a 1] λd=>.fl d 0 λ_ e=>.Bc 186 [e] λf=>.nt [f] λh=>.AH h (.rr [ff,g a 1]) (.ia [g a 1,I 1] λj=>.rn [g a 0,j])) (.rx 0 [g a 0,g a 1])) (lx 0 (λk=>.rr [tt]) λk=>.rr [g k 0])
theorem og:GL cx 243 aFw:=λ_=>by kernel_rfl
def aFx(p:Aa):IT:=
 .loop 3 [.slnil,I 0] (λa=>.ln [p] λb=>.il [g a 1,b] λc=>.AH c (.loop 7 [ff,I 0] (λd=>.ln [g a 0] λe=>.il [g d 1,e] λf=>.AH f (.ea 3 [g a 0,g d 1] λh=>.fl h 0 λ_ j=>.ea 3 [p,g a 1] λk=>.fl k 0 λ_ m=>.ie [j,m] λn=>.AH n (.ea 3 [g a 0,g d 1] λo=>.fl o 1 λ_ s=>.ea 3 [p,g a 1] λu=>.fl u 1 λ_ w=>.se [s,w] λy=>.AH y (.ia [g d 1,I 1] λz=>.rn [tt,z]) (.ia [g d 1,I 1] λa0=>.rn [g d 0,a0])) (.ia [g d 1,I 1] λa1=>.rn [g d 0,a1])) (.rx 2 [g d 0,g d 1])) (λx a2=>match x with| .normal=>.fail| .exit i=>if i=2 then .nt [g a2 0] λa5=>.AH a5 (.ea 3 [p,g a 1] λa7=>.load (some 3) a7 λa8=>.op (.Bx 3) [a8] λb0=>.op (.append 3 40) [g a 0,b0] λb1=>.ia [g a 1,I 1] λb2=>.rn [b1,b2]) (.ia [g a 1,I 1] λb3=>.rn [g a 0,b3]) else if i=1 then .ia [g a 1,I 1] λb4=>.rn [g a 0,b4] else .ret (.exit i) [g a 0,g a 1]| .ret=>.rr [g a 0,g a 1])) (.rx 0 [g a 0,g a 1])) (lx 0 (λb5=>.rr [g b5 0]) λb5=>.rr [.slnil])
theorem oh:GL cx 244 aFx:=λ_=>by kernel_rfl
def aFy(p:Aa):IT:=
 .cells 13 p λa=>.ie [g a 0,I 4] λb=>.AH b (.ie [g a 4,I 1] λc=>.AH c (.se [g a 5,S aSo] λd=>.rr [d]) (.rr [ff])) (.rr [ff])
theorem oj:GL cx 245 aFy:=λ_=>by kernel_rfl
def aBw(p q:Aa):IT:=
 .BY p 1 λ_ _ a=>.ea 1 [a,q] λb=>.ld b λc=>.ie [c,I 0] λd=>.AH d (.call 68 [p,ff] λe=>.BY p 1 λ_ _ f=>.ea 1 [f,q] λh=>.store 1 h e (.BY p 1 λ_ _ j=>.ea 1 [j,e] λk=>.store 1 k e (.BY p 1 λ_ _ m=>.ea 1 [m,q] λn=>.ld n λo=>.rr [o]))) (.BY p 1 λ_ _ s=>.ea 1 [s,q] λu=>.ld u λw=>.rr [w])
theorem oK:DR cx 246 aBw:=λ_ _=>by kernel_rfl
def aFz(p:Aa):IT:=
 .loop 3 [.slnil,I 0] (λa=>.lt [p] λb=>.il [g a 1,b] λc=>.AH c (.op .RD [p,g a 1] λd=>.Bc 288 [d] λe=>.AH e (.ia [d,.int .u8 32] λf=>.op (.Bx 1) [f] λh=>.op (.append 1 1) [g a 0,h] λj=>.ia [g a 1,I 1] λk=>.rn [j,k]) (.op (.Bx 1) [d] λm=>.op (.append 1 1) [g a 0,m] λn=>.ia [g a 1,I 1] λo=>.rn [n,o])) (.rx 0 [g a 0,g a 1])) (lx 0 (λs=>.KR (g s 0) λu=>.op .Th [u] λw=>.rr [w]) λs=>.rr [S []])
theorem om:GL cx 247 aFz:=λ_=>by kernel_rfl
def aFA(p q:Aa):IT:=
 .cells 4 p λa=>.ld q λb=>.call 181 [a4 a,b] λc=>.rr [c]
theorem oo:DR cx 248 aFA:=λ_ _=>by kernel_rfl
def aBx(p q:Aa):IT:=
 .cells 4 p λa=>.iq [g a 1,I 1] λb=>.AH b (.rr [tt]) (.Bc 250 [g a 2] λc=>.nt [c] λd=>.AH d (.rr [tt]) (.ld q λe=>.se [g a 2,e] λf=>.rr [f]))
theorem oL:DR cx 249 aBx:=λ_ _=>by kernel_rfl
def aBy(p:Aa):IT:=
 .se [p,S [100,100]] λa=>.AH a (.rr [tt]) (.se [p,S [100,116]] λb=>.AH b (.rr [tt]) (.se [p,S [108,105]] λc=>.AH c (.rr [tt]) (.se [p,S aSM] λd=>.AH d (.rr [tt]) (.se [p,S aSY] λe=>.AH e (.rr [tt]) (.se [p,S [112]] λf=>.AH f (.rr [tt]) (.se [p,S [114,98]] λh=>.AH h (.rr [tt]) (.se [p,S [114,112]] λj=>.AH j (.rr [tt]) (.se [p,S [114,116]] λk=>.AH k (.rr [tt]) (.se [p,S [114,116,99]] λm=>.AH m (.rr [tt]) (.rr [ff]))))))))))
theorem oM:GL cx 250 aBy:=λ_=>by kernel_rfl
def aBz(p q:Aa):IT:=
 .ie [p,I 3] λa=>.AH a (.se [q,S [109,105]] λb=>.AH b (.rr [tt]) (.se [q,S [109,110]] λc=>.AH c (.rr [tt]) (.se [q,S [109,111]] λd=>.AH d (.rr [tt]) (.se [q,S [109,115]] λe=>.AH e (.rr [tt]) (.se [q,S [109,116,101,120,116]] λf=>.rr [f]))))) (.rr [ff])
theorem oN:DR cx 251 aBz:=λ_ _=>by kernel_rfl
def aBA:IT:=
 .op (.Bs [S [],I 0] [(0,1),(1,1)]) [S [116,114],I 14] λa=>.op (.Bs [S [],I 0] [(0,1),(1,1)]) [S aSN,I 13] λb=>.op (.Bs [S [],I 0] [(0,1),(1,1)]) [S aSO,I 13] λc=>.op (.Bs [S [],I 0] [(0,1),(1,1)]) [S aSK,I 13] λd=>.op (.Bs [S [],I 0] [(0,1),(1,1)]) [S aSz,I 11] λe=>.op (.Bs [S [],I 0] [(0,1),(1,1)]) [S aSG,I 12] λf=>.op (.Bs [S [],I 0] [(0,1),(1,1)]) [S aSv,I 9] λh=>.op (.Bs [S [],I 0] [(0,1),(1,1)]) [S aS9,I 7] λj=>.op (.Bs [S [],I 0] [(0,1),(1,1)]) [S aSX,I 20] λk=>.op (.Bx 2) [a,b,c,d,e,f,h,j,k] λm=>.rr [m]
theorem oO:B5 cx 252 []=aBA:=by kernel_rfl
def aBB(p q:Aa):IT:=
 .ib [q,I 1] λa=>.loop 2 [I 0,a] (λb=>.ih [g b 1,I 0] λc=>.AH c (.fa p 2 λ_ d=>.call 116 [d,g b 1] λe=>.op (.Bx 1) [S aSo] λf=>.call 36 [e,f] λh=>.AH h (.rx 0 [g b 0,g b 1]) (.fa p 2 λ_ j=>.call 116 [j,g b 1] λk=>.op (.Bx 1) [S aSv] λm=>.call 36 [k,m] λn=>.AH n (.rr [I 17,g b 1]) (.ib [g b 1,I 1] λo=>.rn [g b 0,o]))) (.rx 0 [g b 0,g b 1])) (lx 0 (λs=>.rr [I 16]) λs=>.rr [g s 0])
theorem oP:DR cx 253 aBB:=λ_ _=>by kernel_rfl
def aBC(p:Aa):IT:=
 .ln [p] λa=>.loop 3 [.slnil,ff,.slnil,I 0] (λb=>.il [g b 3,a] λc=>.AH c (.ea 3 [p,g b 3] λd=>.load (some 3) d λe=>.cells 3 e λf=>.op (.Bx 1) [g f 0] λh=>.call 259 [h] λj=>.nt [j] λk=>.AH k (.rr [.slnil,ff,g b 2,g b 3]) (.call 174 [g b 2,.func (.func 289) [] [.CA [g f 0,g f 1,g f 2]]] λm=>.nt [m] λn=>.AH n (.load (some 3) (.CA [g f 0,g f 1,g f 2]) λo=>.op (.Bx 3) [o] λs=>.op (.append 3 40) [g b 2,s] λu=>.ia [g b 3,I 1] λw=>.rn [g b 0,g b 1,u,w]) (.ia [g b 3,I 1] λy=>.rn [g b 0,g b 1,g b 2,y]))) (.rx 0 [g b 0,g b 1,g b 2,g b 3])) (lx 0 (λz=>.rr [.tuple [g z 2,tt]]) λz=>.rr [.tuple [g z 0,g z 1]])
theorem oQ:GL cx 254 aBC:=λ_=>by kernel_rfl
def aFB(p:Aa):IT:=
 .cells 4 p λa=>.iq [g a 1,I 1] λb=>.AH b (.rr [tt]) (.Bc 256 [g a 2] λc=>.nt [c] λd=>.rr [d])
theorem oq:GL cx 255 aFB:=λ_=>by kernel_rfl
def aFC(p:Aa):IT:=
 .se [p,S aSz] λa=>.AH a (.rr [tt]) (.se [p,S aSG] λb=>.AH b (.rr [tt]) (.se [p,S aSN] λc=>.AH c (.rr [tt]) (.se [p,S [116,100]] λd=>.AH d (.rr [tt]) (.se [p,S aSK] λe=>.AH e (.rr [tt]) (.se [p,S [116,104]] λf=>.AH f (.rr [tt]) (.se [p,S aSO] λh=>.AH h (.rr [tt]) (.se [p,S [116,114]] λj=>.AH j (.rr [tt]) (.Bc 250 [p] λk=>.rr [k]))))))))
theorem ot:GL cx 256 aFC:=λ_=>by kernel_rfl
def aBD(p:Aa):IT:=
 .Bc 258 [p,S aSk] λa=>.rr [a]
theorem oR:GL cx 257 aBD:=λ_=>by kernel_rfl
def aBE(p q:Aa):IT:=
 .call 290 [q] λa=>.ln [a] λb=>.loop 2 [S [],I 0] (λc=>.il [g c 1,b] λd=>.AH d (.ea 1 [a,g c 1] λe=>.ld e λf=>.Bc 274 [f] λh=>.se [h,p] λj=>.AH j (.rr [f,g c 1]) (.ia [g c 1,I 1] λk=>.rn [g c 0,k])) (.rx 0 [g c 0,g c 1])) (lx 0 (λm=>.rr [p]) λm=>.rr [g m 0])
theorem oS:DR cx 258 aBE:=λ_ _=>by kernel_rfl
def aBF(p:Aa):IT:=
 .ln [p] λa=>.loop 2 [ff,I 0] (λb=>.il [g b 1,a] λc=>.AH c (.ea 1 [p,g b 1] λd=>.ld d λe=>.il [e,I 0] λf=>.AH f (.rr [ff,g b 1]) (.ig [e,I 7] λh=>.AH h (.rr [ff,g b 1]) (.ia [g b 1,I 1] λj=>.rn [g b 0,j]))) (.rx 0 [g b 0,g b 1])) (lx 0 (λk=>.rr [tt]) λk=>.rr [g k 0])
theorem oT:GL cx 259 aBF:=λ_=>by kernel_rfl
def aBG(p:Aa):IT:=
 .fa p 0 λ_ a=>.fl a 0 λ_ b=>.ie [b,I 4] λc=>.AH c (.fa p 0 λ_ d=>.fl d 4 λ_ e=>.ie [e,I 1] λf=>.AH f (.fa p 0 λ_ h=>.fl h 5 λ_ j=>.se [j,S aSo] λk=>.rr [k]) (.rr [ff])) (.rr [ff])
theorem oU:GL cx 260 aBG:=λ_=>by kernel_rfl
def aa(p q:Aa):IT:=
 .BY p 1 λ_ _ a=>.mem (.d_ i0 true) [a,q] λb=>.op (.ext 0) [b] λc=>.op (.ext 1) [b] λd=>.AH d (.rr [c]) (.call 52 [p,ff] λe=>.BY p 1 λ_ _ f=>.op (.GV false .mp) [f,.map none] λh=>.AH h (.O7 λj=>.fa p 1 λ_ k=>.store 1 k j (.BY p 1 λ_ _ m=>.BY p 1 λ_ _ n=>.mem (.ML i0) [m,q] λo=>.op (.ext 1) [o] λs=>.mem .LN [m,s,e] λ_=>.mem (.ML i0) [n,e] λu=>.op (.ext 1) [u] λw=>.mem .LN [n,w,e] λ_=>.rr [e])) (.BY p 1 λ_ _ y=>.BY p 1 λ_ _ z=>.mem (.ML i0) [y,q] λa0=>.op (.ext 1) [a0] λa1=>.mem .LN [y,a1,e] λ_=>.mem (.ML i0) [z,e] λa2=>.op (.ext 1) [a2] λa5=>.mem .LN [z,a5,e] λ_=>.rr [e]))
theorem T9:DR cx 261 aa:=λ_ _=>by kernel_rfl
def aFD(p q:Aa):IT:=
 .cells 3 p λa=>.cells 3 q λb=>.op (.str .neq) [g a 1,g b 1] λc=>.AH c (.rr [ff]) (.ln [g a 2] λd=>.ln [g b 2] λe=>.iq [d,e] λf=>.AH f (.rr [ff]) (.loop 4 [ff,I 0] (λh=>.ln [g a 2] λj=>.il [g h 1,j] λk=>.AH k (.ea 3 [g a 2,g h 1] λm=>.load (some 3) m λn=>.call 291 [g b 2,n] λo=>.nt [o] λs=>.AH s (.rr [ff,g h 1]) (.ea 3 [g b 2,g h 1] λu=>.load (some 3) u λw=>.call 291 [g a 2,w] λy=>.nt [y] λz=>.AH z (.rr [ff,g h 1]) (.ia [g h 1,I 1] λa0=>.rn [g h 0,a0]))) (.rx 0 [g h 0,g h 1])) (lx 0 (λa1=>.rr [tt]) λa1=>.rr [g a1 0])))
theorem ou:DR cx 262 aFD:=λ_ _=>by kernel_rfl
def aFE(p:Aa):IT:=
 .Bc 140 [S aSq,p] λa=>.rr [a]
theorem ov:GL cx 263 aFE:=λ_=>by kernel_rfl
def aFF(p:Aa):IT:=
 .Bc 140 [S aSq,p] λa=>.AH a (.rr [tt]) (.Bc 140 [S aSr,p] λb=>.rr [b])
theorem oz:GL cx 264 aFF:=λ_=>by kernel_rfl
def aFG(p q:Aa):IT:=
 .ib [q,I 1] λa=>.loop 2 [I 0,a] (λb=>.ih [g b 1,I 0] λc=>.AH c (.BY p 2 λ_ _ d=>.ea 4 [d,g b 1] λe=>.load (some 4) e λf=>.op (.Bx 1) [S aSo] λh=>.call 40 [f,h] λj=>.AH j (.rr [I 16,g b 1]) (.BY p 2 λ_ _ k=>.ea 4 [k,g b 1] λm=>.load (some 4) m λn=>.op (.Bx 1) [S aSv] λo=>.call 40 [n,o] λs=>.AH s (.rr [I 17,g b 1]) (.ib [g b 1,I 1] λu=>.rn [g b 0,u]))) (.rx 0 [g b 0,g b 1])) (lx 0 (λw=>.rr [I 16]) λw=>.rr [g w 0])
theorem o_:DR cx 265 aFG:=λ_ _=>by kernel_rfl
def aFH(p q:Aa):IT:=
 .loop 3 [S [],I 0,I 0] (λa=>.lt [p] λb=>.ik [g a 2,b] λc=>.AH c (.lt [p] λd=>.ie [g a 2,d] λe=>.AH e (.op (.Hq 0 true true true) [p,g a 1,g a 2] λf=>.Bc 247 [f] λh=>.se [h,q] λj=>.AH j (.op (.Hq 0 true true true) [p,g a 1,g a 2] λk=>.rr [k,g a 1,g a 2]) (.ia [g a 2,I 1] λm=>.ia [g a 2,I 1] λn=>.rn [g a 0,m,n])) (.op .RD [p,g a 2] λo=>.ie [o,.int .u8 32] λs=>.AH s (.op (.Hq 0 true true true) [p,g a 1,g a 2] λu=>.Bc 247 [u] λw=>.se [w,q] λy=>.AH y (.op (.Hq 0 true true true) [p,g a 1,g a 2] λz=>.rr [z,g a 1,g a 2]) (.ia [g a 2,I 1] λa0=>.ia [g a 2,I 1] λa1=>.rn [g a 0,a0,a1])) (.ia [g a 2,I 1] λa2=>.rn [g a 0,g a 1,a2]))) (.rx 0 [g a 0,g a 1,g a 2])) (lx 0 (λa5=>.rr [q]) λa5=>.rr [g a5 0])
theorem pc:DR cx 266 aFH:=λ_ _=>by kernel_rfl
def aFI(p q:Aa):IT:=
 .cells 13 p λa=>.cells 13 q λb=>.ie [g a 0,g b 0] λc=>.AH c (.ie [g a 4,g b 4] λd=>.AH d (.se [g a 5,g b 5] λe=>.AH e (.call 292 [g a 6,g b 6] λf=>.AH f (.se [g a 7,g b 7] λh=>.AH h (.se [g a 8,g b 8] λj=>.AH j (.se [g a 9,g b 9] λk=>.AH k (.op (.beq false) [g a 10,g b 10] λm=>.rr [m]) (.rr [ff])) (.rr [ff])) (.rr [ff])) (.rr [ff])) (.rr [ff])) (.rr [ff])) (.rr [ff])
theorem pd:DR cx 267 aFI:=λ_ _=>by kernel_rfl
def ae(p:Aa):IT:=
 .cells 1 p λa=>.ie [g a 0,I 4] λb=>.AH b (.rr [.func (.func 293) [] []]) (.ie [g a 0,I 5] λc=>.AH c (.rr [.func (.func 294) [] []]) (.rr [.func (.func 295) [] [.CA [g a 0]]]))
theorem Ua:GL cx 268 ae:=λ_=>by kernel_rfl
def aBH(p q r:Aa):IT:=
 .cells 4 p λa=>.ld q λb=>.FF b [a4 a] λc=>.AH c (.rr [tt]) (.ld r λd=>.FF d [a4 a] λe=>.rr [e])
theorem oV:Lt cx 269 aBH:=λ_ _ _=>by kernel_rfl
def aBI(p:Aa):IT:=
 .op (.GV false .sl) [p,.slnil] λa=>.AH a (.rr [.slnil]) (.op (.Bx 4) [] λb=>.HC 4 40 b p λc=>.rr [c])
theorem oW:GL cx 270 aBI:=λ_=>by kernel_rfl
def aFJ(p q:Aa):IT:=
 .cells 4 p λa=>.ie [g a 1,I 1] λb=>.ie [q,I 4] λc=>.AH c (.AH b (.Bc 140 [S aSC,g a 2] λd=>.rr [d]) (.rr [ff])) (.ie [q,I 5] λe=>.AH e (.nt [b] λf=>.AH f (.rr [tt]) (.Bc 140 [S aSH,g a 2] λh=>.nt [h] λj=>.rr [j])) (.AH b (.ie [q,I 2] λk=>.AH k (.Bc 140 [S aTc,g a 2] λm=>.AH m (.rr [tt]) (.AH b (.ie [q,I 3] λn=>.AH n (.se [g a 2,S aSw] λo=>.AH o (.rr [tt]) (.AH b (.Bc 140 [S aSn,g a 2] λs=>.rr [s]) (.Bc 196 [g a 1,g a 2] λu=>.rr [u]))) (.AH b (.Bc 140 [S aSn,g a 2] λw=>.rr [w]) (.Bc 196 [g a 1,g a 2] λy=>.rr [y]))) (.AH b (.Bc 140 [S aSn,g a 2] λz=>.rr [z]) (.Bc 196 [g a 1,g a 2] λa0=>.rr [a0])))) (.AH b (.ie [q,I 3] λa1=>.AH a1 (.se [g a 2,S aSw] λa2=>.AH a2 (.rr [tt]) (.AH b (.Bc 140 [S aSn,g a 2] λa5=>.rr [a5]) (.Bc 196 [g a 1,g a 2] λa7=>.rr [a7]))) (.AH b (.Bc 140 [S aSn,g a 2] λa8=>.rr [a8]) (.Bc 196 [g a 1,g a 2] λb0=>.rr [b0]))) (.AH b (.Bc 140 [S aSn,g a 2] λb1=>.rr [b1]) (.Bc 196 [g a 1,g a 2] λb2=>.rr [b2])))) (.AH b (.ie [q,I 3] λb3=>.AH b3 (.se [g a 2,S aSw] λb4=>.AH b4 (.rr [tt]) (.AH b (.Bc 140 [S aSn,g a 2] λb5=>.rr [b5]) (.Bc 196 [g a 1,g a 2] λb6=>.rr [b6]))) (.AH b (.Bc 140 [S aSn,g a 2] λb7=>.rr [b7]) (.Bc 196 [g a 1,g a 2] λb8=>.rr [b8]))) (.AH b (.Bc 140 [S aSn,g a 2] λb9=>.rr [b9]) (.Bc 196 [g a 1,g a 2] λc1=>.rr [c1])))))
theorem pg:DR cx 271 aFJ:=λ_ _=>by kernel_rfl
def aFK(p q r:Aa):IT:=
 .call 220 [p,q] λa=>.nt [a] λb=>.AH b (.rr [ff]) (.call 220 [p,r] λc=>.nt [c] λd=>.AH d (.rr [ff]) (.loop 3 [r,ff] (λe=>.iq [g e 0,I 0] λf=>.AH f (.ie [g e 0,q] λh=>.AH h (.rr [g e 0,tt]) (.call 296 [p,g e 0] λj=>.rn [j,g e 1])) (.rx 0 [g e 0,g e 1])) (lx 0 (λk=>.rr [ff]) λk=>.rr [g k 1])))
theorem ph:Lt cx 272 aFK:=λ_ _ _=>by kernel_rfl
def aFL(p q:Aa):IT:=
 .loop 3 [.slnil,I 0] (λa=>.ln [p] λb=>.il [g a 1,b] λc=>.AH c (.ea 1 [p,g a 1] λd=>.ld d λe=>.iq [e,q] λf=>.AH f (.ea 1 [p,g a 1] λh=>.ld h λj=>.op (.Bx 1) [j] λk=>.op (.append 1 8) [g a 0,k] λm=>.ia [g a 1,I 1] λn=>.rn [m,n]) (.ia [g a 1,I 1] λo=>.rn [g a 0,o])) (.rx 0 [g a 0,g a 1])) (lx 0 (λs=>.rr [g s 0]) λs=>.rr [.slnil])
theorem pj:DR cx 273 aFL:=λ_ _=>by kernel_rfl
def aBJ(p:Aa):IT:=
 .E7 p λa=>.ln [a] λb=>.loop 3 [I 0] (λc=>.il [g c 0,b] λd=>.AH d (.ea 1 [a,g c 0] λe=>.ld e λf=>.op (.conv .i32) [f] λh=>.Bc 297 [h] λj=>.AH j (.ib [f,.int .u8 65] λk=>.ia [k,.int .u8 97] λm=>.ea 1 [a,g c 0] λn=>.store 1 n m (.ia [g c 0,I 1] λo=>.rn [o])) (.ia [g c 0,I 1] λs=>.rn [s])) (.rx 0 [g c 0])) (lx 0 (λu=>.KR a λw=>.op .Th [w] λy=>.rr [y]) λu=>.rr [S []])
theorem oX:GL cx 274 aBJ:=λ_=>by kernel_rfl
def aBK(p q:Aa):IT:=
 .cells 3 q λa=>.ln [p] λb=>.loop 2 [I 0,I 0] (λc=>.il [g c 1,b] λd=>.AH d (.ea 3 [p,g c 1] λe=>.load (some 3) e λf=>.op (.geq false [.i,.s,.s]) [a3 a,f] λh=>.AH h (.rr [g c 1,g c 1]) (.ia [g c 1,I 1] λj=>.rn [g c 0,j])) (.rx 0 [g c 0,g c 1])) (lx 0 (λk=>.rr [I (-1)]) λk=>.rr [g k 0])
theorem oY:DR cx 275 aBK:=λ_ _=>by kernel_rfl
def aBL(p q r:Aa):IT:=
 .ln [p] λa=>.mem (.eQ 1) [p,q,r,a] λ_=>.ie [q,r] λb=>.AH b (.rr [p]) (.ln [p] λc=>.op (.Hq 1 false false true) [p,q] λd=>.op (.Hq 1 false true false) [p,r] λe=>.FE 1 8 d e λf=>.ln [f] λh=>.mem (.qG 1 true true) [f,h,c] λj=>.mem (.clear 1 [I 0]) [j] λ_=>.rr [f])
theorem oZ:Lt cx 277 aBL:=λ_ _ _=>by kernel_rfl
def aFM(p:Aa):IT:=
 .ih [p,.int .u8 65] λa=>.AH a (.ik [p,.int .u8 90] λb=>.rr [b]) (.rr [ff])
theorem pk:GL cx 288 aFM:=λ_=>by kernel_rfl
def aBM(p q:Aa):IT:=
 .cells 3 p λa=>.fl q 0 λ_ b=>.ie [b,g a 0] λc=>.AH c (.fl q 1 λ_ d=>.se [d,g a 1] λe=>.rr [e]) (.rr [ff])
theorem o7:DR cx 289 aBM:=λ_ _=>by kernel_rfl
def aFN(p:Aa):IT:=
 .loop 5 [I 0,I 1,.int .u8 0,I 0] (λa=>.lt [p] λb=>.il [g a 3,b] λc=>.AH c (.op .RD [p,g a 3] λd=>.op (.int .or) [g a 2,d] λe=>.op (.Uh 256 1) [.CA JE,d] λf=>.ld f λh=>.op (.conv .i64) [h] λj=>.op (.un .xor) [j] λk=>.op (.int .and) [g a 1,k] λm=>.ia [g a 0,m] λn=>.ia [g a 3,I 1] λo=>.rn [n,j,e,o]) (.rx 0 [g a 0,g a 1,g a 2,g a 3])) (lx 0 (λs=>.ih [g s 2,.int .u8 128] λu=>.AH u (.call 304 [p,.func (.func 305) [] []] λw=>.KR w λy=>.rr [y]) (.make 1 16 [S []] (g s 0) (g s 0) λz=>.loop 18 [I 0] (λa0=>.lt [p] λa1=>.il [g a0 0,a1] λa2=>.AH a2 (.op .RD [p,g a0 0] λa5=>.op (.Uh 256 1) [.CA JE,a5] λa7=>.ld a7 λa8=>.iq [a8,.int .u8 0] λb0=>.AH b0 (.ia [g a0 0,I 1] λb1=>.rn [b1]) (.rx 2 [g a0 0])) (.rx 2 [g a0 0])) (lx 2 (λb2=>.loop 21 [I 0,g b2 0,g b2 0] (λb3=>.lt [p] λb4=>.il [g b3 2,b4] λb5=>.AH b5 (.op .RD [p,g b3 2] λb6=>.op (.Uh 256 1) [.CA JE,b6] λb7=>.ld b7 λb8=>.ie [b8,.int .u8 0] λb9=>.AH b9 (.ia [g b3 2,I 1] λc1=>.rn [g b3 0,g b3 1,c1]) (.op (.Hq 0 true true true) [p,g b3 1,g b3 2] λc2=>.ea 1 [z,g b3 0] λc3=>.store 1 c3 c2 (.ia [g b3 0,I 1] λc4=>.ia [g b3 2,I 1] λc5=>.loop 27 [c5] (λc6=>.lt [p] λc7=>.il [g c6 0,c7] λc8=>.AH c8 (.op .RD [p,g c6 0] λc9=>.op (.Uh 256 1) [.CA JE,c9] λd0=>.ld d0 λd1=>.iq [d1,.int .u8 0] λd2=>.AH d2 (.ia [g c6 0,I 1] λd3=>.rn [d3]) (.rx 6 [g c6 0])) (.rx 6 [g c6 0])) (λx d4=>match x with| .normal=>.fail| .exit i=>if i=6 then .rn [c4,g d4 0,g d4 0] else if i=5 then .rn [c4,g b3 1,g d4 0] else .ret (.exit i) [c4,g b3 1,g d4 0]| .ret=>.rr [c4,g b3 1,g d4 0])))) (.rx 4 [g b3 0,g b3 1,g b3 2])) (lx 4 (λd5=>.lt [p] λd6=>.il [g d5 1,d6] λd7=>.AH d7 (.op (.Hq 0 true true false) [p,g d5 1] λd8=>.ea 1 [z,g d5 0] λd9=>.store 1 d9 d8 (.KR z λe0=>.rr [e0])) (.KR z λe1=>.rr [e1])) λd5=>.KR .slnil λe2=>.rr [e2])) λb2=>.KR .slnil λe3=>.rr [e3]))) λs=>.KR .slnil λe4=>.rr [e4])
theorem po:GL cx 290 aFN:=λ_=>by kernel_rfl
def aFO(p q:Aa):IT:=
 .cells 3 q λa=>.loop 2 [ff,I 0] (λb=>.ln [p] λc=>.il [g b 1,c] λd=>.AH d (.ea 3 [p,g b 1] λe=>.load (some 3) e λf=>.op (.geq false [.i,.s,.s]) [f,a3 a] λh=>.AH h (.rr [tt,g b 1]) (.ia [g b 1,I 1] λj=>.rn [g b 0,j])) (.rx 0 [g b 0,g b 1])) (lx 0 (λk=>.rr [ff]) λk=>.rr [g k 0])
theorem pq:DR cx 291 aFO:=λ_ _=>by kernel_rfl
def aFP(p q:Aa):IT:=
 .ln [p] λa=>.ln [q] λb=>.iq [a,b] λc=>.AH c (.rr [ff]) (.loop 4 [ff,I 0] (λd=>.ln [p] λe=>.il [g d 1,e] λf=>.AH f (.ea 3 [p,g d 1] λh=>.load (some 3) h λj=>.ea 3 [q,g d 1] λk=>.load (some 3) k λm=>.op (.geq true [.i,.s,.s]) [j,m] λn=>.AH n (.rr [ff,g d 1]) (.ia [g d 1,I 1] λo=>.rn [g d 0,o])) (.rx 0 [g d 0,g d 1])) (lx 0 (λs=>.rr [tt]) λs=>.rr [g s 0]))
theorem pv:DR cx 292 aFP:=λ_ _=>by kernel_rfl
def aBN(p:Aa):IT:=
 .cells 4 p λa=>.op (.Bx 1) [S aSx,S aSv,S aSo] λb=>.call 181 [a4 a,b] λc=>.rr [c]
theorem o8:GL cx 293 aBN:=λ_=>by kernel_rfl
def aBO(p:Aa):IT:=
 .cells 4 p λa=>.op (.Bx 1) [S aSM,S aSY] λb=>.call 181 [a4 a,b] λc=>.nt [c] λd=>.rr [d]
theorem o9:GL cx 294 aBO:=λ_=>by kernel_rfl
def aBP(p q:Aa):IT:=
 .cells 4 p λa=>.ie [g a 1,I 3] λb=>.AH b (.Bc 172 [g a 1,g a 2] λc=>.rr [c]) (.ie [g a 1,I 2] λd=>.AH d (.Bc 172 [g a 1,g a 2] λe=>.rr [e]) (.op (.Bx 1) [S aS3,S aSz,S aSx,S aS0,S aS5,S aSv,S [116,100],S aSo,S [116,104]] λf=>.call 181 [a4 a,f] λh=>.AH h (.rr [tt]) (.ld q λj=>.ie [j,I 2] λk=>.AH k (.op (.Bx 1) [S [111,108],S [117,108]] λm=>.call 181 [a4 a,m] λn=>.AH n (.rr [tt]) (.ld q λo=>.ie [o,I 3] λs=>.AH s (.op (.Bx 1) [S aSw] λu=>.call 181 [a4 a,u] λw=>.rr [w]) (.rr [ff]))) (.ld q λy=>.ie [y,I 3] λz=>.AH z (.op (.Bx 1) [S aSw] λa0=>.call 181 [a4 a,a0] λa1=>.rr [a1]) (.rr [ff])))))
theorem pA:DR cx 295 aBP:=λ_ _=>by kernel_rfl
def aFQ(p q:Aa):IT:=
 .BY p 0 λ_ _ a=>.ea 13 [a,q] λb=>.fl b 1 λ_ c=>.iq [c,I 0] λd=>.AH d (.BY p 0 λ_ _ e=>.ea 13 [e,q] λf=>.fl f 1 λ_ h=>.rr [h]) (.BY p 0 λ_ _ j=>.ea 13 [j,q] λk=>.fl k 12 λ_ m=>.rr [m])
theorem px:DR cx 296 aFQ:=λ_ _=>by kernel_rfl
def aBQ(p:Aa):IT:=
 .call 306 [.int .i32 65,.int .i32 90] λa=>.FF a [p] λb=>.rr [b]
theorem pB:GL cx 297 aBQ:=λ_=>by kernel_rfl
def aFR(p q:Aa):IT:=
 .make 2 16 [I 0,I 0] i0 (I 32) λ_=>.fail
theorem py:DR cx 304 aFR:=λ_ _=>by kernel_rfl
def aBR(p q:Aa):IT:=
 .cells 1 p λa=>.cells 1 q λb=>.rr [.func (.func 316) [] [.CA [g a 0],.CA [g b 0]]]
theorem pC:DR cx 306 aBR:=λ_ _=>by kernel_rfl
def aBS(p q r:Aa):IT:=
 .ld q λa=>.ik [a,p] λb=>.AH b (.ld r λc=>.ik [p,c] λd=>.rr [d]) (.rr [ff])
theorem pD:Lt cx 316 aBS:=λ_ _ _=>by kernel_rfl
def Ub(p:Aa):IT:=
 .op (.GV false .sl) [p,.slnil] λa=>.AH a (.rr [.slnil]) (.op (.Bx 3) [] λb=>.HC 3 40 b p λc=>.rr [c])
theorem Qg:GL cx 100063 Ub:=λ_=>by kernel_rfl
end Go.Am
