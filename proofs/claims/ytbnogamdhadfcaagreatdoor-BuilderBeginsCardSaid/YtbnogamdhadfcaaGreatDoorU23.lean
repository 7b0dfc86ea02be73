/- Lemmas -/
import Derived.Test.YtbnogamdhadfcaaGreatDoorU10
import Derived.Test.YtbnogamdhadfcaaGreatDoorU18
set_option linter.unusedVariables false
set_option linter.unusedSimpArgs false
namespace Go.Am
open Go
def aAL(p q r:Aa):IT:=
 .cells 12 q λa=>.call 185 [p,r] λb=>.iq [b,I 4] λc=>.AH c (.rr [.tuple []]) (.BV p 0 λ_ _ d=>.BV d 0 λ_ _ e=>.ea 13 [e,r] λf=>.fl f 6 λ_ h=>.op (.append 3 40) [.slnil,h] λj=>.loop 4 [j,I 0] (λk=>.ln [g a 8] λm=>.il [g k 1,m] λn=>.AH n (.ea 3 [g a 8,g k 1] λo=>.fl o 1 λ_ s=>.ea 3 [g a 8,g k 1] λu=>.fl u 2 λ_ w=>.op (.Br [I 0,S [],S []] [(1,1),(2,1)]) [s,w] λy=>.op (.By 3) [y] λz=>.op (.append 3 40) [g k 0,z] λa0=>.ia [g k 1,I 1] λa1=>.rn [a0,a1]) (.rx 0 [g k 0,g k 1])) (lx 0 (λa2=>.BV p 0 λ_ _ a5=>.call 221 [a5,r,g a2 0] λ_=>.rr [.tuple []]) λa2=>.rr [.tuple []]))
theorem mN:LW cx 133 aAL:=λ_ _ _=>by kernel_rfl
def ka(p:Aa):IT:=
 .BV p 2 λ_ _ a=>.call 222 [a,S aSI] λb=>.il [b,I 0] λc=>.AH c (.rr [.tuple []]) (.BV p 2 λ_ _ d=>.call 212 [d,S [],tt] λe=>.fa p 2 λ_ f=>.store 1 f e (.BV p 2 λ_ _ h=>.op (.By 1) [S aSI] λj=>.call 139 [h,j] λk=>.fa p 2 λ_ m=>.store 1 m k (.BV p 3 λ_ _ n=>.call 138 [n] λo=>.fa p 3 λ_ s=>.store 1 s o (.BV p 6 λ_ _ u=>.ln [u] λw=>.ig [w,I 0] λy=>.AH y (.BV p 6 λ_ _ z=>.BV p 6 λ_ _ a0=>.ln [a0] λa1=>.ib [a1,I 1] λa2=>.op (.Hs 1 false false true) [z,a2] λa5=>.op (.append 1 8) [.slnil,a5] λa7=>.fa p 6 λ_ a8=>.store 1 a8 a7 (.call 101 [p] λ_=>.rr [.tuple []])) (.call 101 [p] λ_=>.rr [.tuple []])))))
theorem YY:GP cx 134 ka:=λ_=>by kernel_rfl
def aER(p:Aa):IT:=
 .fa p 19 λ_ a=>.store 1 a tt (.rr [.tuple []])
theorem ke:GP cx 135 aER:=λ_=>by kernel_rfl
def aES(p q r:Aa):IT:=
 .cells 3 q λa=>.il [r,I 0] λb=>.AH b (.ln [p] λc=>.ig [I 0,c] λd=>.AH d (.ln [p] λe=>.op (.Hs 3 false false true) [p,e] λf=>.op (.append 3 48) [.slnil,f] λh=>.call 223 [a3 a] λj=>.op (.By 3) [j] λk=>.op (.append 3 48) [h,k] λm=>.op (.Hs 3 false true false) [p,e] λn=>.op (.append 3 48) [m,n] λo=>.rr [o]) (.op (.Hs 3 false false true) [p,I 0] λs=>.op (.append 3 48) [.slnil,s] λu=>.call 223 [a3 a] λw=>.op (.By 3) [w] λy=>.op (.append 3 48) [u,y] λz=>.op (.Hs 3 false true false) [p,I 0] λa0=>.op (.append 3 48) [z,a0] λa1=>.rr [a1])) (.ln [p] λa2=>.ig [r,a2] λa5=>.AH a5 (.ln [p] λa7=>.op (.Hs 3 false false true) [p,a7] λa8=>.op (.append 3 48) [.slnil,a8] λb0=>.call 223 [a3 a] λb1=>.op (.By 3) [b1] λb2=>.op (.append 3 48) [b0,b2] λb3=>.op (.Hs 3 false true false) [p,a7] λb4=>.op (.append 3 48) [b3,b4] λb5=>.rr [b5]) (.op (.Hs 3 false false true) [p,r] λb6=>.op (.append 3 48) [.slnil,b6] λb7=>.call 223 [a3 a] λb8=>.op (.By 3) [b8] λb9=>.op (.append 3 48) [b7,b9] λc1=>.op (.Hs 3 false true false) [p,r] λc2=>.op (.append 3 48) [c1,c2] λc3=>.rr [c3]))
theorem kf:LW cx 136 aES:=λ_ _ _=>by kernel_rfl
def aAM(p:Aa):IT:=
 .BV p 2 λ_ _ a=>.ln [a] λb=>.il [b,I 2] λc=>.AH c (.op (.Br [I 0,I 0,S [],ff] []) [] λd=>.cells 4 d λe=>.rr [a4 e]) (.call 217 [p] λf=>.cells 4 f λh=>.BV p 2 λ_ _ j=>.call 219 [j] λk=>.fa p 2 λ_ m=>.store 1 m k (.cells 4 (a4 h) λn=>.rr [a4 n]))
theorem mO:GP cx 137 aAM:=λ_=>by kernel_rfl
def aET(p:Aa):IT:=
 .call 224 [p] λa=>.ib [a,I 1] λb=>.il [b,I 0] λc=>.AH c (.op (.Hs 3 false false true) [p,I 0] λd=>.op (.append 3 48) [.slnil,d] λe=>.rr [e]) (.op (.Hs 3 false false true) [p,b] λf=>.op (.append 3 48) [.slnil,f] λh=>.rr [h])
theorem kg:GP cx 138 aET:=λ_=>by kernel_rfl
def aEU(p q:Aa):IT:=
 .ln [p] λa=>.ib [a,I 1] λb=>.loop 2 [.slnil,b] (λc=>.ih [g c 1,I 0] λd=>.AH d (.ea 4 [p,g c 1] λe=>.load (some 4) e λf=>.call 214 [f,q] λh=>.AH h (.call 225 [p,g c 1] λj=>.rr [j,g c 1]) (.ib [g c 1,I 1] λk=>.rn [g c 0,k])) (.rx 0 [g c 0,g c 1])) (lx 0 (λm=>.call 225 [p,I 1] λn=>.KU n λo=>.rr [o]) λm=>.KU (g m 0) λs=>.rr [s])
theorem kh:DO cx 139 aEU:=λ_ _=>by kernel_rfl
def aAN(p q r u:Aa):IT:=
 .cells 12 q λa=>.Be 78 [r] λb=>.nt [b] λc=>.AH c (.op (.Br [I 0,I 0,S [],ff] []) [] λd=>.cells 4 d λe=>.rr [a4 e]) (.call 226 [r,g a 8] λf=>.ie [r,I 2] λh=>.Dg 100024 (.AH h (.Be 227 [g a 1] λj=>.rn [j]) (.rn [g a 1])) (nx (λk=>.call 228 [p,u,S aSI] λm=>.Dg 100029 (.AH m (.BV p 0 λ_ _ n=>.BV n 0 λ_ _ o=>.ea 13 [o,u] λs=>.fl s 11 λ_ w=>.rn [w]) (.rn [u])) (nx (λy=>.BV p 0 λ_ z a0=>.call 210 [p,g y 0] λa1=>.ld z λa2=>.same a0 a2 (.call 98 [a0,a1,r,g k 0,f] λa5=>.op (.ext 0) [a5] λa7=>.op (.ext 1) [a5] λ_=>.call 100 [r,g k 0,f] λa8=>.op (.Br [I 0,I 0,S [],ff] [(0,1),(1,1),(2,1),(3,1)]) [a7,r,g k 0,a8] λb0=>.cells 4 b0 λb1=>.rr [a4 b1])) λy=>.rr [.agg [I 0,I 0,S [],ff]])) λk=>.rr [.agg [I 0,I 0,S [],ff]]))
theorem mP:df cx 140 aAN:=λ_ _ _ _=>by kernel_rfl
def ki(p q r u:Aa):IT:=
 .cells 12 r λa=>.call 85 [p,I 0] λb=>.op (.ext 0) [b] λc=>.op (.ext 1) [b] λd=>.FH q [tW a,u,c] λe=>.cells 4 e λf=>.iq [g f 0,I 0] λh=>.AH h (.call 47 [p,g f 0,c,d] λ_=>.fa p 2 λ_ j=>.call 48 [j,a4 f] λ_=>.rr [g f 0]) (.rr [g f 0])
theorem YZ:df cx 141 ki:=λ_ _ _ _=>by kernel_rfl
def aEV(p q r:Aa):IT:=
 .cells 1 r λa=>.call 229 [p,q,.func (.func 230) [] [.CA [g a 0]]] λb=>.rr [b]
theorem kj:LW cx 142 aEV:=λ_ _ _=>by kernel_rfl
def aAO(p q:Aa):IT:=
 .cells 1 q λa=>.call 155 [p,.func (.func 231) [] [.CA [g a 0]],.func (.func 156) [] []] λb=>.rr [b]
theorem mQ:DO cx 143 aAO:=λ_ _=>by kernel_rfl
def aAP(p q:Aa):IT:=
 .cells 1 q λa=>.call 233 [p,.func (.func 234) [] [.CA [g a 0]]] λb=>.rr [b]
theorem mR:DO cx 144 aAP:=λ_ _=>by kernel_rfl
def zK(p:Aa):IT:=
 .op (.GL false .sl) [p,.slnil] λa=>.AH a (.rr [.slnil]) (.op (.By 3) [] λb=>.Ht 3 48 b p λc=>.rr [c])
theorem T3:GP cx 145 zK:=λ_=>by kernel_rfl
def t146(p:Aa):IT:=
 .cells 3 p λa=>.op (.Br [I 0,S [],ff,S [],ff,S [],ff,ff,.slnil,ff,S [],.int .i32 0] [(0,1),(1,1),(8,1)]) [I 2,g a 1,g a 2] λb=>.cells 12 b λc=>.rr [tW c]
theorem mS:GP cx 146 t146:=λ_=>by kernel_rfl
def kq(p q:Aa):IT:=
 .cells 1 q λa=>.call 144 [p,g a 0] λb=>.il [b,I 0] λc=>.AH c (.rr [I 0]) (.call 155 [p,.func (.func 156) [] [],.func (.func 235) [] [.CA [g a 0]]] λd=>.rr [d])
theorem Y0:DO cx 147 kq:=λ_ _=>by kernel_rfl
def t148(p q:Aa):IT:=
 .call 118 [p,q] λa=>.ih [a,I 0] λb=>.rr [b]
theorem Y1:DO cx 148 t148:=λ_ _=>by kernel_rfl
def aEW(p q:Aa):IT:=
 .cells 3 p λa=>.ie [g a 0,I 0] λb=>.AH b (.fl q 1 λ_ c=>.se [g a 1,c] λd=>.rr [d]) (.rr [ff])
theorem ku:DO cx 149 aEW:=λ_ _=>by kernel_rfl
def aEX(p q r:Aa):IT:=
 .op (.By 1) [q] λa=>.call 107 [p,a] λb=>.iq [b,I 0] λc=>.AH c (.rr [b]) (.call 43 [p,q] λd=>.fa d 0 λ_ e=>.fl e 0 λ_ f=>.iq [f,I 4] λh=>.AH h (.rr [I 9]) (.call 161 [r] λj=>.op (.ext 0) [j] λk=>.op (.ext 1) [j] λm=>.nt [m] λn=>.AH n (.rr [I 2]) (.fa d 0 λ_ o=>.op (.D8 6) [o] λs=>.store 1 s k (.rr [I 0]))))
theorem kx:LW cx 150 aEX:=λ_ _ _=>by kernel_rfl
def aAQ(p q:Aa):IT:=
 .cells 1 q λa=>.call 233 [p,.func (.func 236) [] [.CA [g a 0]]] λb=>.rr [b]
theorem mT:DO cx 151 aAQ:=λ_ _=>by kernel_rfl
def aEY(p:Aa):IT:=
 .call 155 [p,.func (.func 237) [] [],.func (.func 156) [] []] λa=>.rr [a]
theorem ky:GP cx 152 aEY:=λ_=>by kernel_rfl
def aAR(p q r:Aa):IT:=
 .cells 3 q λa=>.op (.Hs 3 false false true) [p,r] λb=>.op (.append 3 48) [.slnil,b] λc=>.op (.By 3) [a3 a] λd=>.op (.append 3 48) [c,d] λe=>.op (.Hs 3 false true false) [p,r] λf=>.op (.append 3 48) [e,f] λh=>.rr [h]
theorem mU:LW cx 153 aAR:=λ_ _ _=>by kernel_rfl
def aAS(p:Aa):IT:=
 .BV p 0 λ_ _ a=>.ln [a] λb=>.loop 2 [b] (λc=>.ig [g c 0,I 0] λd=>.AH d (.BV p 0 λ_ _ e=>.ib [g c 0,I 1] λf=>.ea 3 [e,f] λh=>.fl h 0 λ_ j=>.iq [j,I 0] λk=>.AH k (.ib [g c 0,I 1] λm=>.rn [m]) (.rx 0 [g c 0])) (.rx 0 [g c 0])) (lx 0 (λn=>.rr [g n 0]) λn=>.rr [I 0])
theorem mV:GP cx 154 aAS:=λ_=>by kernel_rfl
def aAT(p q r:Aa):IT:=
 .loop 2 [I 0] (λa=>.call 24 [p] λb=>.ig [b,I 1] λc=>.AH c (.call 91 [p] λd=>.FH q [d] λe=>.nt [e] λf=>.AH f (.ia [g a 0,I 1] λh=>.call 68 [p] λj=>.FH r [j] λk=>.AH k (.rx 0 [h]) (.rn [h])) (.rx 0 [g a 0])) (.rx 0 [g a 0])) (lx 0 (λm=>.rr [g m 0]) λm=>.rr [I 0])
theorem mW:LW cx 155 aAT:=λ_ _ _=>by kernel_rfl
def aAU(p:Aa):IT:=
 .cells 4 p λ_=>.rr [ff]
theorem mX:GP cx 156 aAU:=λ_=>by kernel_rfl
def aEZ(p q:Aa):IT:=
 .cells 4 p λa=>.ld q λb=>.call 158 [a4 a,b] λc=>.rr [c]
theorem kz:DO cx 157 aEZ:=λ_ _=>by kernel_rfl
def aAV(p q:Aa):IT:=
 .cells 4 p λa=>.ie [g a 1,I 1] λb=>.AH b (.call 121 [q,g a 2] λc=>.rr [c]) (.rr [ff])
theorem mY:DO cx 158 aAV:=λ_ _=>by kernel_rfl
def k_(p:Aa):IT:=
 .op (.GL false .sl) [p,.slnil] λa=>.AH a (.rr [.slnil]) (.op (.By 1) [] λb=>.FY 1 8 b p λc=>.rr [c])
theorem Y2:GP cx 159 k_:=λ_=>by kernel_rfl
def aAW(p:Aa):IT:=
 .ln [p] λa=>.loop 2 [ff,I 0] (λb=>.il [g b 1,a] λc=>.AH c (.ea 1 [p,g b 1] λd=>.ld d λe=>.il [e,I 0] λf=>.AH f (.rr [ff,g b 1]) (.ig [e,I 7] λh=>.AH h (.rr [ff,g b 1]) (.ia [g b 1,I 1] λj=>.rn [g b 0,j]))) (.rx 0 [g b 0,g b 1])) (lx 0 (λk=>.rr [tt]) λk=>.rr [g k 0])
theorem mZ:GP cx 160 aAW:=λ_=>by kernel_rfl
def aAX(p:Aa):IT:=
 .ln [p] λa=>.loop 3 [.slnil,ff,.slnil,I 0] (λb=>.il [g b 3,a] λc=>.AH c (.ea 3 [p,g b 3] λd=>.load (some 3) d λe=>.cells 3 e λf=>.op (.By 1) [g f 0] λh=>.call 160 [h] λj=>.nt [j] λk=>.AH k (.rr [.slnil,ff,g b 2,g b 3]) (.call 148 [g b 2,.func (.func 239) [] [.CA [g f 0,g f 1,g f 2]]] λm=>.nt [m] λn=>.AH n (.load (some 3) (.CA [g f 0,g f 1,g f 2]) λo=>.op (.By 3) [o] λs=>.op (.append 3 40) [g b 2,s] λu=>.ia [g b 3,I 1] λw=>.rn [g b 0,g b 1,u,w]) (.ia [g b 3,I 1] λy=>.rn [g b 0,g b 1,g b 2,y]))) (.rx 0 [g b 0,g b 1,g b 2,g b 3])) (lx 0 (λz=>.rr [.tuple [g z 2,tt]]) λz=>.rr [.tuple [g z 0,g z 1]])
theorem m6:GP cx 161 aAX:=λ_=>by kernel_rfl
def aE0(p:Aa):IT:=
 .cells 13 p λa=>.ie [g a 0,I 4] λb=>.AH b (.ie [g a 4,I 1] λc=>.AH c (.se [g a 5,S aSI] λd=>.rr [d]) (.rr [ff])) (.rr [ff])
theorem la:GP cx 163 aE0:=λ_=>by kernel_rfl
def t164(p q:Aa):IT:=
 .ig [q,I 0] λa=>.AH a (.BV p 0 λ_ _ b=>.ln [b] λc=>.il [q,c] λd=>.rr [d]) (.rr [ff])
theorem lf:DO cx 164 t164:=λ_ _=>by kernel_rfl
def aE1(p q:Aa):IT:=
 .loop 2 [I 0,I 0] (λa=>.ln [p] λb=>.il [g a 1,b] λc=>.AH c (.ea 1 [p,g a 1] λd=>.ld d λe=>.ie [e,q] λf=>.AH f (.rr [g a 1,g a 1]) (.ia [g a 1,I 1] λh=>.rn [g a 0,h])) (.rx 0 [g a 0,g a 1])) (lx 0 (λj=>.rr [I (-1)]) λj=>.rr [g j 0])
theorem lg:DO cx 165 aE1:=λ_ _=>by kernel_rfl
def aE2(p q:Aa):IT:=
 .BV p 0 λ_ _ a=>.ea 13 [a,q] λb=>.fl b 1 λ_ c=>.iq [c,I 0] λd=>.AH d (.BV p 0 λ_ _ e=>.ea 13 [e,q] λf=>.fl f 1 λ_ h=>.rr [h]) (.BV p 0 λ_ _ j=>.ea 13 [j,q] λk=>.fl k 12 λ_ m=>.rr [m])
theorem lj:DO cx 166 aE2:=λ_ _=>by kernel_rfl
def aAY(p q:Aa):IT:=
 .cells 3 p λa=>.cells 3 q λb=>.se [g a 1,g b 1] λc=>.AH c (.ln [g a 2] λd=>.ln [g b 2] λe=>.ie [d,e] λf=>.AH f (.FH (.func (.func 241) [] []) [g a 2,g b 2] λh=>.AH h (.FH (.func (.func 241) [] []) [g b 2,g a 2] λj=>.rr [j]) (.rr [ff])) (.rr [ff])) (.rr [ff])
theorem m7:DO cx 167 aAY:=λ_ _=>by kernel_rfl
def aAZ(p q:Aa):IT:=
 .op (.Hs 3 false false true) [p,q] λa=>.op (.append 3 48) [.slnil,a] λb=>.ia [q,I 1] λc=>.op (.Hs 3 false true false) [p,c] λd=>.op (.append 3 48) [b,d] λe=>.rr [e]
theorem m8:DO cx 168 aAZ:=λ_ _=>by kernel_rfl
def aA0(p:Aa):IT:=
 .cells 3 p λa=>.call 54 [g a 2] λb=>.cells 1 b λc=>.cells 3 (.agg [g a 0,g a 1,g c 0]) λd=>.rr [a3 d]
theorem m9:GP cx 169 aA0:=λ_=>by kernel_rfl
def aA1(p:Aa):IT:=
 .fa p 2 λ_ a=>.fa p 2 λ_ b=>.call 151 [a,S aSO] λc=>.call 151 [b,S aSI] λd=>.ig [d,c] λe=>.AH e (.fa p 2 λ_ f=>.call 22 [f,d] λh=>.op (.part 0 none) [h] λj=>.rr [.tuple [j,I 0]]) (.il [c,I 0] λk=>.AH k (.fa p 2 λ_ m=>.call 22 [m,I 0] λn=>.op (.part 0 none) [n] λo=>.rr [.tuple [o,I 0]]) (.fa p 2 λ_ s=>.call 22 [s,c] λu=>.op (.part 0 none) [u] λw=>.BV p 0 λ_ _ y=>.call 244 [y,w] λz=>.iq [z,I 0] λa0=>.AH a0 (.rr [.tuple [z,w]]) (.fa p 2 λ_ a1=>.ib [c,I 1] λa2=>.op (.Kl true) [a2,I 0] λa5=>.call 22 [a1,a5] λa7=>.op (.part 0 none) [a7] λa8=>.rr [.tuple [a8,I 0]])))
theorem nA:GP cx 170 aA1:=λ_=>by kernel_rfl
def lp(p q:Aa):IT:=
 .op (.conv .u32) [q] λa=>.ik [a,.int .u32 2047] λb=>.AH b (.op (.int .shr) [q,.int .u64 6] λc=>.op (.conv .u8) [c] λd=>.op (.int .or) [.int .u8 192,d] λe=>.op (.conv .u8) [q] λf=>.op (.int .and) [f,.int .u8 63] λh=>.op (.int .or) [.int .u8 128,h] λj=>.op (.By 1) [e,j] λk=>.Ft 1 1 p k λm=>.rr [m]) (.il [a,.int .u32 55296] λn=>.AH n (.op (.int .shr) [q,.int .u64 12] λo=>.op (.conv .u8) [o] λs=>.op (.int .or) [.int .u8 224,s] λu=>.op (.int .shr) [q,.int .u64 6] λw=>.op (.conv .u8) [w] λy=>.op (.int .and) [y,.int .u8 63] λz=>.op (.int .or) [.int .u8 128,z] λa0=>.op (.conv .u8) [q] λa1=>.op (.int .and) [a1,.int .u8 63] λa2=>.op (.int .or) [.int .u8 128,a2] λa5=>.op (.By 1) [u,a0,a5] λa7=>.Ft 1 1 p a7 λa8=>.rr [a8]) (.il [.int .u32 57343,a] λb0=>.AH b0 (.ik [a,.int .u32 65535] λb1=>.AH b1 (.op (.int .shr) [q,.int .u64 12] λb2=>.op (.conv .u8) [b2] λb3=>.op (.int .or) [.int .u8 224,b3] λb4=>.op (.int .shr) [q,.int .u64 6] λb5=>.op (.conv .u8) [b5] λb6=>.op (.int .and) [b6,.int .u8 63] λb7=>.op (.int .or) [.int .u8 128,b7] λb8=>.op (.conv .u8) [q] λb9=>.op (.int .and) [b9,.int .u8 63] λc0=>.op (.int .or) [.int .u8 128,c0] λc1=>.op (.By 1) [b4,b8,c1] λc2=>.Ft 1 1 p c2 λc3=>.rr [c3]) (.ig [a,.int .u32 65535] λc4=>.AH c4 (.ik [a,.int .u32 1114111] λc5=>.AH c5 (.op (.int .shr) [q,.int .u64 18] λc6=>.op (.conv .u8) [c6] λc7=>.op (.int .or) [.int .u8 240,c7] λc8=>.op (.int .shr) [q,.int .u64 12] λc9=>.op (.conv .u8) [c9] λd0=>.op (.int .and) [d0,.int .u8 63] λd1=>.op (.int .or) [.int .u8 128,d1] λd2=>.op (.int .shr) [q,.int .u64 6] λd3=>.op (.conv .u8) [d3] λd4=>.op (.int .and) [d4,.int .u8 63] λd5=>.op (.int .or) [.int .u8 128,d5] λd6=>.op (.conv .u8) [q] λd7=>.op (.int .and) [d7,.int .u8 63] λd8=>.op (.int .or) [.int .u8 128,d8] λd9=>.op (.By 1) [c8,d2,d6,d9] λe0=>.Ft 1 1 p e0 λe1=>.rr [e1]) (.op (.By 1) [.int .u8 239,.int .u8 191,.int .u8 189] λe2=>.Ft 1 1 p e2 λe3=>.rr [e3])) (.op (.By 1) [.int .u8 239,.int .u8 191,.int .u8 189] λe4=>.Ft 1 1 p e4 λe5=>.rr [e5]))) (.ig [a,.int .u32 65535] λe6=>.AH e6 (.ik [a,.int .u32 1114111] λe7=>.AH e7 (.op (.int .shr) [q,.int .u64 18] λe8=>.op (.conv .u8) [e8] λe9=>.op (.int .or) [.int .u8 240,e9] λf0=>.op (.int .shr) [q,.int .u64 12] λf1=>.op (.conv .u8) [f1] λf2=>.op (.int .and) [f2,.int .u8 63] λf3=>.op (.int .or) [.int .u8 128,f3] λf4=>.op (.int .shr) [q,.int .u64 6] λf5=>.op (.conv .u8) [f5] λf6=>.op (.int .and) [f6,.int .u8 63] λf7=>.op (.int .or) [.int .u8 128,f7] λf8=>.op (.conv .u8) [q] λf9=>.op (.int .and) [f9,.int .u8 63] λh0=>.op (.int .or) [.int .u8 128,h0] λh1=>.op (.By 1) [f0,f4,f8,h1] λh2=>.Ft 1 1 p h2 λh3=>.rr [h3]) (.op (.By 1) [.int .u8 239,.int .u8 191,.int .u8 189] λh4=>.Ft 1 1 p h4 λh5=>.rr [h5])) (.op (.By 1) [.int .u8 239,.int .u8 191,.int .u8 189] λh6=>.Ft 1 1 p h6 λh7=>.rr [h7]))))
theorem Y3:DO cx 171 lp:=λ_ _=>by kernel_rfl
def aA2(p q:Aa):IT:=
 .op (.Nr false) [p,.ptr none] λa=>.AH a (.rr [I (-1)]) (.BV p 0 λ_ _ b=>.ln [b] λc=>.ib [c,I 1] λd=>.loop 4 [I 0,d] (λe=>.ih [g e 1,I 0] λf=>.AH f (.BV p 0 λ_ _ h=>.ea 3 [h,g e 1] λj=>.fl j 0 λ_ k=>.iq [k,I 0] λm=>.AH m (.BV p 0 λ_ _ n=>.ea 3 [n,g e 1] λo=>.fl o 1 λ_ s=>.se [s,q] λu=>.AH u (.rr [g e 1,g e 1]) (.ib [g e 1,I 1] λw=>.rn [g e 0,w])) (.rx 0 [g e 0,g e 1])) (.rx 0 [g e 0,g e 1])) (lx 0 (λy=>.rr [I (-1)]) λy=>.rr [g y 0]))
theorem nB:DO cx 172 aA2:=λ_ _=>by kernel_rfl
def aA3(p q r:Aa):IT:=
 .fa q 3 λ_ a=>.fl a 0 λ_ b=>.call 145 [b] λc=>.ia [r,I 1] λd=>.call 245 [c,r,d] λe=>.fa q 3 λ_ f=>.op (.D8 0) [f] λh=>.store 1 h e (.BV p 3 λ_ _ j=>.il [r,j] λk=>.AH k (.BV p 3 λ_ _ m=>.ib [m,I 1] λn=>.fa p 3 λ_ o=>.store 1 o n (.BV p 4 λ_ _ s=>.il [r,s] λu=>.AH u (.BV p 4 λ_ _ w=>.ib [w,I 1] λy=>.fa p 4 λ_ z=>.store 1 z y (.Hu 3 q (.rr [.tuple []]))) (.Hu 3 q (.rr [.tuple []])))) (.BV p 4 λ_ _ a0=>.il [r,a0] λa1=>.AH a1 (.BV p 4 λ_ _ a2=>.ib [a2,I 1] λa5=>.fa p 4 λ_ a7=>.store 1 a7 a5 (.Hu 3 q (.rr [.tuple []]))) (.Hu 3 q (.rr [.tuple []]))))
theorem nC:LW cx 173 aA3:=λ_ _ _=>by kernel_rfl
def aA4(p q r:Aa):IT:=
 .cells 1 r λa=>.call 229 [p,q,.func (.func 246) [] [.CA [g a 0]]] λb=>.rr [b]
theorem nD:LW cx 174 aA4:=λ_ _ _=>by kernel_rfl
def aA5(p q:Aa):IT:=
 .call 144 [p,q] λa=>.ia [a,I 1] λb=>.loop 3 [I 0,b] (λc=>.ih [a,I 0] λd=>.AH d (.call 24 [p] λe=>.il [g c 1,e] λf=>.AH f (.BV p 0 λ_ _ h=>.ea 4 [h,g c 1] λj=>.fl j 1 λ_ k=>.BV p 0 λ_ _ m=>.ea 4 [m,g c 1] λn=>.fl n 2 λ_ o=>.Be 117 [k,o] λs=>.AH s (.rr [g c 1,g c 1]) (.ia [g c 1,I 1] λu=>.rn [g c 0,u])) (.rx 0 [g c 0,g c 1])) (.rx 0 [g c 0,g c 1])) (lx 0 (λw=>.rr [I (-1)]) λw=>.rr [g w 0])
theorem nE:DO cx 175 aA5:=λ_ _=>by kernel_rfl
def aA6(p q r u:Aa):IT:=
 .ib [u,I 1] λa=>.loop 2 [I 0,a] (λb=>.ig [g b 1,r] λc=>.AH c (.fa p 2 λ_ d=>.call 22 [d,g b 1] λe=>.cells 4 e λf=>.ia [g b 0,I 1] λh=>.fa p 3 λ_ j=>.call 92 [j,g f 0] λk=>.Dg 200007 (.ig [h,I 3] λm=>.AH m (.ih [k,I 0] λn=>.rn [n]) (.rn [ff])) (λx o=>match x with| .normal=>.Dg 100039 (.AH (g o 0) (.call 173 [q,p,k] λ_=>.fa p 3 λ_ s=>.call 92 [s,g f 0] λw=>.rn [w]) (.rn [k])) (λx y=>match x with| .normal=>.il [g y 0,I 0] λz=>.AH z (.fa p 2 λ_ a0=>.call 178 [a0,g f 0] λ_=>.ib [g b 1,I 1] λa1=>.rn [h,a1]) (.fa p 3 λ_ a2=>.fl a2 0 λ_ a5=>.ea 3 [a5,g y 0] λa7=>.load (some 3) a7 λa8=>.cells 3 a8 λb0=>.fa q 5 λ_ b1=>.fl b1 0 λb2 b3=>.call 146 [a3 b0] λb4=>.ld b2 λb5=>.same b3 b5 (.call 46 [p,b4,I 1,b3] λb6=>.cells 4 b6 λb7=>.fa p 2 λ_ b8=>.call 247 [b8,g f 0,a4 b7] λ_=>.fa p 3 λ_ b9=>.op (.Br [I 0,S [],.slnil] [(0,1),(1,1),(2,1)]) [g b7 0,g b0 1,g b0 2] λc0=>.call 248 [b9,g f 0,c0] λ_=>.BV q 13 λ_ _ c2=>.fa q 9 λ_ c3=>.fl c3 0 λ_ c4=>.ie [c2,c4] λc5=>.Dg 100104 (.AH c5 (.ia [g y 0,I 1] λc7=>.fa q 4 λ_ c8=>.store 1 c8 c7 (.rn [])) (.rn [])) (λx _=>match x with| .normal=>.BV q 13 λ_ _ c9=>.call 47 [p,c9,g b7 0,I 0] λ_=>.fa q 13 λ_ d0=>.store 1 d0 (g b7 0) (.ib [g b 1,I 1] λd1=>.rn [h,d1])| .exit i=>if i=1 then .ib [g b 1,I 1] λd2=>.rn [h,d2] else .ret (.exit i) [h,g b 1]| .ret=>.rr [h,g b 1])))| .exit i=>if i=1 then .ib [g b 1,I 1] λd3=>.rn [h,d3] else .ret (.exit i) [h,g b 1]| .ret=>.rr [h,g b 1])| .exit i=>if i=1 then .ib [g b 1,I 1] λd4=>.rn [h,d4] else .ret (.exit i) [h,g b 1]| .ret=>.rr [h,g b 1])) (.rx 0 [g b 0,g b 1])) (lx 0 (λd5=>.rr [.tuple []]) λd5=>.rr [.tuple []])
theorem nF:df cx 176 aA6:=λ_ _ _ _=>by kernel_rfl
def aA7(p q r:Aa):IT:=
 .cells 3 q λa=>.op (.Nr true) [p,.ptr none] λb=>.AH b (.BV p 0 λ_ c d=>.op (.Kl true) [r,I 0] λe=>.BV p 0 λ_ f h=>.ln [h] λj=>.op (.Kl false) [e,j] λk=>.call 169 [a3 a] λm=>.ld f λn=>.same h n (.ld c λo=>.same d o (.call 153 [d,m,k] λs=>.fa p 0 λ_ u=>.store 1 u s (.rr [.tuple []])))) (.rr [.tuple []])
theorem nG:LW cx 177 aA7:=λ_ _ _=>by kernel_rfl
def lq(p q:Aa):IT:=
 .call 144 [p,q] λa=>.il [a,I 1] λb=>.AH b (.rr [ff]) (.BV p 0 λ_ _ c=>.call 249 [c,a] λd=>.fa p 0 λ_ e=>.store 1 e d (.rr [tt]))
theorem Y4:DO cx 178 lq:=λ_ _=>by kernel_rfl
def aA8(p q r:Aa):IT:=
 .cells 4 q λa=>.op (.Nr true) [p,.ptr none] λb=>.AH b (.BV p 0 λ_ _ c=>.op (.Kl true) [r,I 1] λd=>.BV p 0 λ_ _ e=>.ln [e] λf=>.op (.Kl false) [d,f] λh=>.call 116 [c,a4 a,h] λj=>.fa p 0 λ_ k=>.store 1 k j (.rr [.tuple []])) (.rr [.tuple []])
theorem nH:LW cx 179 aA8:=λ_ _ _=>by kernel_rfl
def aA9(p q:Aa):IT:=
 .BV p 1 λ_ _ a=>.ea 1 [a,q] λb=>.ld b λc=>.ie [c,I 0] λd=>.AH d (.call 37 [p,ff] λe=>.BV p 1 λ_ _ f=>.ea 1 [f,q] λh=>.store 1 h e (.BV p 1 λ_ _ j=>.ea 1 [j,e] λk=>.store 1 k e (.BV p 1 λ_ _ m=>.ea 1 [m,q] λn=>.ld n λo=>.rr [o]))) (.BV p 1 λ_ _ s=>.ea 1 [s,q] λu=>.ld u λw=>.rr [w])
theorem nI:DO cx 184 aA9:=λ_ _=>by kernel_rfl
def aE3(p q:Aa):IT:=
 .BV p 0 λ_ _ a=>.call 164 [a,q] λb=>.nt [b] λc=>.AH c (.rr [I 0]) (.BV p 0 λ_ _ d=>.BV d 0 λ_ _ e=>.ea 13 [e,q] λf=>.fl f 0 λ_ h=>.rr [h])
theorem ls:DO cx 185 aE3:=λ_ _=>by kernel_rfl
def aBa(p q:Aa):IT:=
 .call 164 [p,q] λa=>.nt [a] λb=>.AH b (.rr [.slnil]) (.BV p 0 λ_ _ c=>.ea 13 [c,q] λd=>.fl d 2 λ_ e=>.op (.append 1 8) [.slnil,e] λf=>.rr [f])
theorem nJ:DO cx 186 aBa:=λ_ _=>by kernel_rfl
def aBb(p q r u:Aa):IT:=
 .call 257 [p,q,r,u] λa=>.iq [a,I 0] λb=>.AH b (.rr [a]) (.call 258 [p,r] λ_=>.loop 7 [.slnil,I 0] (λc=>.BV p 0 λ_ _ d=>.ea 13 [d,q] λe=>.fl e 2 λ_ f=>.ln [f] λh=>.il [g c 1,h] λj=>.AH j (.BV p 0 λ_ _ k=>.ea 13 [k,q] λm=>.fl m 2 λ_ n=>.ea 1 [n,g c 1] λo=>.ld o λs=>.ie [s,u] λw=>.Dg 100048 (.AH w (.op (.By 1) [r] λy=>.op (.append 1 8) [g c 0,y] λz=>.rn [z]) (.rn [g c 0])) (λx a0=>match x with| .normal=>.BV p 0 λ_ _ a1=>.ea 13 [a1,q] λa2=>.fl a2 2 λ_ a5=>.ea 1 [a5,g c 1] λa7=>.ld a7 λa8=>.op (.By 1) [a8] λb0=>.op (.append 1 8) [g a0 0,b0] λb1=>.ia [g c 1,I 1] λb2=>.rn [b1,b2]| .exit i=>if i=1 then .ia [g c 1,I 1] λb3=>.rn [g a0 0,b3] else .ret (.exit i) [g a0 0,g c 1]| .ret=>.rr [g a0 0,g c 1])) (.rx 0 [g c 0,g c 1])) (lx 0 (λb4=>.ie [u,I 0] λb5=>.Dg 100068 (.AH b5 (.op (.By 1) [r] λb6=>.op (.append 1 8) [g b4 0,b6] λb7=>.rn [b7]) (.rn [g b4 0])) (nx (λb8=>.BV p 0 λ_ _ b9=>.ea 13 [b9,q] λc0=>.op (.D8 2) [c0] λc1=>.store 1 c1 (g b8 0) (.BV p 0 λ_ _ c2=>.ea 13 [c2,r] λc4=>.op (.D8 1) [c4] λc5=>.store 1 c5 q (.rr [I 0]))) λb8=>.rr [I 0])) λb4=>.rr [I 0]))
theorem nK:df cx 187 aBb:=λ_ _ _ _=>by kernel_rfl
def aE4(p q:Aa):IT:=
 .se [q,S []] λa=>.AH a (.rr [ff]) (.Be 259 [q,.int .u8 32] λb=>.AH b (.rr [ff]) (.loop 5 [ff,I 0,I 0] (λc=>.lt [p] λd=>.ik [g c 2,d] λe=>.AH e (.lt [p] λf=>.ie [g c 2,f] λh=>.AH h (.op (.Hs 0 true true true) [p,g c 1,g c 2] λj=>.se [j,q] λk=>.AH k (.rr [tt,g c 1,g c 2]) (.ia [g c 2,I 1] λm=>.ia [g c 2,I 1] λn=>.rn [g c 0,m,n])) (.op .Rv [p,g c 2] λo=>.ie [o,.int .u8 32] λs=>.AH s (.op (.Hs 0 true true true) [p,g c 1,g c 2] λu=>.se [u,q] λw=>.AH w (.rr [tt,g c 1,g c 2]) (.ia [g c 2,I 1] λy=>.ia [g c 2,I 1] λz=>.rn [g c 0,y,z])) (.ia [g c 2,I 1] λa0=>.rn [g c 0,g c 1,a0]))) (.rx 0 [g c 0,g c 1,g c 2])) (lx 0 (λa1=>.rr [ff]) λa1=>.rr [g a1 0])))
theorem ly:DO cx 188 aE4:=λ_ _=>by kernel_rfl
def aE5(p:Aa):IT:=
 .loop 3 [.slnil,I 0] (λa=>.lt [p] λb=>.il [g a 1,b] λc=>.AH c (.op .Rv [p,g a 1] λd=>.Be 260 [d] λe=>.AH e (.ia [d,.int .u8 32] λf=>.op (.By 1) [f] λh=>.op (.append 1 1) [g a 0,h] λj=>.ia [g a 1,I 1] λk=>.rn [j,k]) (.op (.By 1) [d] λm=>.op (.append 1 1) [g a 0,m] λn=>.ia [g a 1,I 1] λo=>.rn [n,o])) (.rx 0 [g a 0,g a 1])) (lx 0 (λs=>.KU (g s 0) λu=>.op .S7 [u] λw=>.rr [w]) λs=>.rr [S []])
theorem lz:GP cx 189 aE5:=λ_=>by kernel_rfl
def aBc(p q r u:Aa):IT:=
 .cells 4 q λa=>.ie [g a 1,I 1] λb=>.AH b (.se [g a 2,S aTl] λc=>.AH c (.call 261 [p,r] λd=>.rr [.tuple [d,tt]]) (.se [g a 2,S [116,100]] λe=>.AH e (.nt [u] λf=>.AH f (.rr [.tuple [I 15,tt]]) (.rr [.tuple [I 7,u]])) (.se [g a 2,S [116,104]] λh=>.AH h (.nt [u] λj=>.AH j (.rr [.tuple [I 15,tt]]) (.rr [.tuple [I 7,u]])) (.se [g a 2,S [116,114]] λk=>.AH k (.rr [.tuple [I 14,tt]]) (.se [g a 2,S aTd] λm=>.AH m (.rr [.tuple [I 13,tt]]) (.se [g a 2,S aTe] λn=>.AH n (.rr [.tuple [I 13,tt]]) (.se [g a 2,S aTc] λo=>.AH o (.rr [.tuple [I 13,tt]]) (.se [g a 2,S aST] λs=>.AH s (.rr [.tuple [I 11,tt]]) (.se [g a 2,S aS4] λw=>.AH w (.rr [.tuple [I 12,tt]]) (.se [g a 2,S aSO] λy=>.AH y (.rr [.tuple [I 9,tt]]) (.se [g a 2,S aSI] λz=>.AH z (.BV p 6 λ_ _ a0=>.ln [a0] λa1=>.ig [a1,I 0] λa2=>.AH a2 (.BV p 6 λ_ _ a5=>.BV p 6 λ_ _ a7=>.ln [a7] λa8=>.ib [a8,I 1] λb0=>.ea 1 [a5,b0] λb1=>.ld b1 λb2=>.rr [.tuple [b2,tt]]) (.rr [.tuple [I 7,tt]])) (.se [g a 2,S aTs] λb3=>.AH b3 (.nt [u] λb4=>.AH b4 (.rr [.tuple [I 4,tt]]) (.rr [.tuple [I 7,u]])) (.se [g a 2,S [98,111,100,121]] λb5=>.AH b5 (.rr [.tuple [I 7,tt]]) (.se [g a 2,S aTk] λb6=>.AH b6 (.rr [.tuple [I 20,tt]]) (.se [g a 2,S aSR] λb7=>.AH b7 (.BV p 7 λ_ _ b8=>.ie [b8,I 0] λb9=>.AH b9 (.rr [.tuple [I 3,tt]]) (.rr [.tuple [I 6,tt]])) (.rr [.tuple [I 7,u]])))))))))))))))) (.rr [.tuple [I 7,u]])
theorem nL:df cx 190 aBc:=λ_ _ _ _=>by kernel_rfl
def aE6(p q:Aa):IT:=
 .cells 13 p λa=>.cells 13 q λb=>.call 262 [RS a,RS b] λc=>.AH c (.call 35 [g a 2,g b 2] λd=>.AH d (.ie [g a 1,g b 1] λe=>.AH e (.ie [g a 3,g b 3] λf=>.AH f (.ie [g a 11,g b 11] λh=>.AH h (.ie [g a 12,g b 12] λj=>.rr [j]) (.rr [ff])) (.rr [ff])) (.rr [ff])) (.rr [ff])) (.rr [ff])
theorem l_:DO cx 191 aE6:=λ_ _=>by kernel_rfl
def aE7(p:Aa):IT:=
 .cells 13 p λa=>.op (.append 1 8) [.slnil,g a 2] λb=>.cells 1 b λc=>.op (.append 3 40) [.slnil,g a 6] λd=>.cells 1 d λe=>.cells 13 (.agg [g a 0,g a 1,g c 0,g a 3,g a 4,g a 5,g e 0,g a 7,g a 8,g a 9,g a 10,g a 11,g a 12]) λf=>.rr [RS f]
theorem ma:GP cx 192 aE7:=λ_=>by kernel_rfl
def aBd(p:Aa):IT:=
 .Be 194 [p,S aSD] λa=>.rr [a]
theorem nM:GP cx 193 aBd:=λ_=>by kernel_rfl
def aBe(p q:Aa):IT:=
 .call 263 [q] λa=>.ln [a] λb=>.loop 2 [S [],I 0] (λc=>.il [g c 1,b] λd=>.AH d (.ea 1 [a,g c 1] λe=>.ld e λf=>.Be 201 [f] λh=>.se [h,p] λj=>.AH j (.rr [f,g c 1]) (.ia [g c 1,I 1] λk=>.rn [g c 0,k])) (.rx 0 [g c 0,g c 1])) (lx 0 (λm=>.rr [p]) λm=>.rr [g m 0])
theorem nN:DO cx 194 aBe:=λ_ _=>by kernel_rfl
def zL(p q:Aa):IT:=
 .BV p 1 λ_ _ a=>.mem (.dn i0 true) [a,q] λb=>.op (.ext 0) [b] λc=>.op (.ext 1) [b] λd=>.AH d (.rr [c]) (.call 13 [p,ff] λe=>.BV p 1 λ_ _ f=>.op (.GL false .mp) [f,.map none] λh=>.AH h (.OY λj=>.fa p 1 λ_ k=>.store 1 k j (.BV p 1 λ_ _ m=>.BV p 1 λ_ _ n=>.mem (.ME i0) [m,q] λo=>.op (.ext 1) [o] λs=>.mem .LM [m,s,e] λ_=>.mem (.ME i0) [n,e] λu=>.op (.ext 1) [u] λw=>.mem .LM [n,w,e] λ_=>.rr [e])) (.BV p 1 λ_ _ y=>.BV p 1 λ_ _ z=>.mem (.ME i0) [y,q] λa0=>.op (.ext 1) [a0] λa1=>.mem .LM [y,a1,e] λ_=>.mem (.ME i0) [z,e] λa2=>.op (.ext 1) [a2] λa5=>.mem .LM [z,a5,e] λ_=>.rr [e]))
theorem T4:DO cx 195 zL:=λ_ _=>by kernel_rfl
def aBf(p q:Aa):IT:=
 .ln [p] λa=>.loop 2 [I 0,I 0] (λb=>.il [g b 1,a] λc=>.AH c (.ea 1 [p,g b 1] λd=>.ld d λe=>.FH q [e] λf=>.AH f (.rr [g b 1,g b 1]) (.ia [g b 1,I 1] λh=>.rn [g b 0,h])) (.rx 0 [g b 0,g b 1])) (lx 0 (λj=>.rr [I (-1)]) λj=>.rr [g j 0])
theorem nO:DO cx 196 aBf:=λ_ _=>by kernel_rfl
def mb(p q:Aa):IT:=
 .call 43 [p,q] λa=>.fa a 0 λ_ b=>.fl b 1 λ_ c=>.ie [c,I 0] λd=>.AH d (.rr [.tuple []]) (.fa a 0 λ_ e=>.fl e 1 λ_ f=>.call 43 [p,f] λh=>.fa h 0 λ_ j=>.fl j 2 λ_ k=>.call 87 [k,q] λm=>.fa h 0 λ_ n=>.fl n 2 λ_ o=>.ia [m,I 1] λs=>.call 265 [o,m,s] λu=>.fa h 0 λ_ w=>.op (.D8 2) [w] λy=>.store 1 y u (.fa a 0 λ_ z=>.op (.D8 1) [z] λa0=>.store 1 a0 i0 (.rr [.tuple []])))
theorem Y5:DO cx 198 mb:=λ_ _=>by kernel_rfl
def aBg(p q:Aa):IT:=
 .ie [p,I 3] λa=>.AH a (.se [q,S [109,105]] λb=>.AH b (.rr [tt]) (.se [q,S [109,110]] λc=>.AH c (.rr [tt]) (.se [q,S [109,111]] λd=>.AH d (.rr [tt]) (.se [q,S [109,115]] λe=>.AH e (.rr [tt]) (.se [q,S [109,116,101,120,116]] λf=>.rr [f]))))) (.rr [ff])
theorem nQ:DO cx 200 aBg:=λ_ _=>by kernel_rfl
def aBh(p:Aa):IT:=
 .E9 p λa=>.ln [a] λb=>.loop 3 [I 0] (λc=>.il [g c 0,b] λd=>.AH d (.ea 1 [a,g c 0] λe=>.ld e λf=>.op (.conv .i32) [f] λh=>.Be 268 [h] λj=>.AH j (.ib [f,.int .u8 65] λk=>.ia [k,.int .u8 97] λm=>.ea 1 [a,g c 0] λn=>.store 1 n m (.ia [g c 0,I 1] λo=>.rn [o])) (.ia [g c 0,I 1] λs=>.rn [s])) (.rx 0 [g c 0])) (lx 0 (λu=>.KU a λw=>.op .S7 [w] λy=>.rr [y]) λu=>.rr [S []])
theorem nS:GP cx 201 aBh:=λ_=>by kernel_rfl
def aBi(p q:Aa):IT:=
 .ln [p] λa=>.loop 2 [I 0,I 0] (λb=>.il [g b 1,a] λc=>.AH c (.ea 1 [p,g b 1] λd=>.ld d λe=>.se [q,e] λf=>.AH f (.rr [g b 1,g b 1]) (.ia [g b 1,I 1] λh=>.rn [g b 0,h])) (.rx 0 [g b 0,g b 1])) (lx 0 (λj=>.rr [I (-1)]) λj=>.rr [g j 0])
theorem nT:DO cx 202 aBi:=λ_ _=>by kernel_rfl
def aBj:IT:=
 .op (.Br [S [],I 0] [(0,1),(1,1)]) [S [116,114],I 14] λa=>.op (.Br [S [],I 0] [(0,1),(1,1)]) [S aTd,I 13] λb=>.op (.Br [S [],I 0] [(0,1),(1,1)]) [S aTe,I 13] λc=>.op (.Br [S [],I 0] [(0,1),(1,1)]) [S aTc,I 13] λd=>.op (.Br [S [],I 0] [(0,1),(1,1)]) [S aST,I 11] λe=>.op (.Br [S [],I 0] [(0,1),(1,1)]) [S aS4,I 12] λf=>.op (.Br [S [],I 0] [(0,1),(1,1)]) [S aSO,I 9] λh=>.op (.Br [S [],I 0] [(0,1),(1,1)]) [S [98,111,100,121],I 7] λj=>.op (.Br [S [],I 0] [(0,1),(1,1)]) [S aTk,I 20] λk=>.op (.By 2) [a,b,c,d,e,f,h,j,k] λm=>.rr [m]
theorem nU:B5 cx 203 []=aBj:=by kernel_rfl
def aBk(p q:Aa):IT:=
 .ib [q,I 1] λa=>.loop 2 [I 0,a] (λb=>.ih [g b 1,I 0] λc=>.AH c (.fa p 2 λ_ d=>.call 22 [d,g b 1] λe=>.op (.By 1) [S aSI] λf=>.call 50 [e,f] λh=>.AH h (.rx 0 [g b 0,g b 1]) (.fa p 2 λ_ j=>.call 22 [j,g b 1] λk=>.op (.By 1) [S aSO] λm=>.call 50 [k,m] λn=>.AH n (.rr [I 17,g b 1]) (.ib [g b 1,I 1] λo=>.rn [g b 0,o]))) (.rx 0 [g b 0,g b 1])) (lx 0 (λs=>.rr [I 16]) λs=>.rr [g s 0])
theorem nV:DO cx 204 aBk:=λ_ _=>by kernel_rfl
def aE8(p q:Aa):IT:=
 .ie [q,I 0] λa=>.Dg 100009 (.AH a (.BV p 2 λ_ _ b=>.ln [b] λc=>.ie [c,I 0] λd=>.AH d (.BV p 1 λ_ _ e=>.rr [q,e,I 0]) (.call 217 [p] λf=>.op (.part 0 none) [f] λh=>.rn [h,I 0,I 0])) (.rn [q,I 0,I 0])) (nx (λj=>.Dg 200006 (.BV p 15 λ_ _ k=>.AH k (.call 228 [p,g j 0,S aSM] λm=>.rn [m]) (.rn [ff])) (nx (λn=>.Dg 100032 (.AH (g n 0) (.call 269 [p] λo=>.op (.ext 0) [o] λs=>.op (.ext 1) [o] λu=>.rn [s,u]) (.rn [g j 0,I 0])) (nx (λw=>.call 228 [p,g w 0,S aSI] λy=>.AH y (.BV p 0 λ_ _ z=>.BV z 0 λ_ _ a0=>.ea 13 [a0,g w 0] λa1=>.fl a1 11 λ_ a2=>.rr [.tuple [a2,I 0]]) (.rr [.tuple [g w 0,g w 1]])) λw=>.rr [.tuple [g j 1,g j 2]])) λn=>.rr [.tuple [g j 1,g j 2]])) λj=>.rr [.tuple [g j 1,g j 2]])
theorem mc:DO cx 205 aE8:=λ_ _=>by kernel_rfl
def aE9(p q:Aa):IT:=
 .cells 3 q λa=>.call 224 [p] λb=>.loop 3 [I (-1),I 0,b] (λc=>.ln [p] λd=>.il [g c 2,d] λe=>.AH e (.ea 3 [p,g c 2] λf=>.load (some 3) f λh=>.call 270 [h,a3 a] λj=>.AH j (.ia [g c 1,I 1] λk=>.il [g c 0,I 0] λm=>.AH m (.ia [g c 2,I 1] λn=>.rn [g c 2,k,n]) (.ia [g c 2,I 1] λo=>.rn [g c 0,k,o])) (.ia [g c 2,I 1] λs=>.rn [g c 0,g c 1,s])) (.rx 0 [g c 0,g c 1,g c 2])) (lx 0 (λu=>.iq [g a 0,I 0] λw=>.AH w (.ih [g u 1,I 3] λy=>.AH y (.call 271 [p,g u 0] λz=>.ln [z] λa0=>.call 136 [z,a3 a,a0] λa1=>.rr [a1]) (.ln [p] λa2=>.call 136 [p,a3 a,a2] λa5=>.rr [a5])) (.ln [p] λa7=>.call 136 [p,a3 a,a7] λa8=>.rr [a8])) λu=>.rr [.slnil])
theorem me:DO cx 206 aE9:=λ_ _=>by kernel_rfl
def aFa(p:Aa):IT:=
 .ih [p,.int .i32 0] λa=>.AH a (.ik [p,.int .i32 55295] λb=>.AH b (.rr [tt]) (.ih [p,.int .i32 57344] λc=>.AH c (.ik [p,.int .i32 1114111] λd=>.rr [d]) (.rr [ff]))) (.ih [p,.int .i32 57344] λe=>.AH e (.ik [p,.int .i32 1114111] λf=>.rr [f]) (.rr [ff]))
theorem mf:GP cx 207 aFa:=λ_=>by kernel_rfl
def aFb(p:Aa):IT:=
 .op (.conv .i64) [p] λa=>.il [a,I 128] λb=>.AH b (.op (.conv .u8) [a] λc=>.op (.By 1) [c] λd=>.rr [d]) (.il [a,I 2048] λe=>.AH e (.op (.int .quo) [a,I 64] λf=>.ia [I 192,f] λh=>.op (.conv .u8) [h] λj=>.op (.int .rem) [a,I 64] λk=>.ia [I 128,k] λm=>.op (.conv .u8) [m] λn=>.op (.By 1) [j,n] λo=>.rr [o]) (.il [a,I 65536] λs=>.AH s (.op (.int .quo) [a,I 4096] λu=>.ia [I 224,u] λw=>.op (.conv .u8) [w] λy=>.op (.int .quo) [a,I 64] λz=>.op (.int .rem) [z,I 64] λa0=>.ia [I 128,a0] λa1=>.op (.conv .u8) [a1] λa2=>.op (.int .rem) [a,I 64] λa5=>.ia [I 128,a5] λa7=>.op (.conv .u8) [a7] λa8=>.op (.By 1) [y,a2,a8] λb0=>.rr [b0]) (.op (.int .quo) [a,I 262144] λb1=>.ia [I 240,b1] λb2=>.op (.conv .u8) [b2] λb3=>.op (.int .quo) [a,I 4096] λb4=>.op (.int .rem) [b4,I 64] λb5=>.ia [I 128,b5] λb6=>.op (.conv .u8) [b6] λb7=>.op (.int .quo) [a,I 64] λb8=>.op (.int .rem) [b8,I 64] λb9=>.ia [I 128,b9] λc0=>.op (.conv .u8) [c0] λc1=>.op (.int .rem) [a,I 64] λc2=>.ia [I 128,c2] λc3=>.op (.conv .u8) [c3] λc4=>.op (.By 1) [b3,b7,c1,c4] λc5=>.rr [c5])))
theorem mg:GP cx 208 aFb:=λ_=>by kernel_rfl
def aFc(p q r:Aa):IT:=
 .cells 13 r λa=>.call 102 [p,q] λb=>.iq [b,I 0] λc=>.AH c (.rr [.tuple [I 0,b]]) (.cells 1 q λd=>.call 97 [p,.agg [g a 0,g a 1,g a 2,g d 0,g a 4,g a 5,g a 6,g a 7,g a 8,g a 9,g a 10,g a 11,g a 12]] λe=>.rr [.tuple [e,I 0]])
theorem mh:LW cx 209 aFc:=λ_ _ _=>by kernel_rfl
def aFd(p q:Aa):IT:=
 .BV p 0 λ_ _ a=>.call 164 [a,q] λb=>.AH b (.BV p 0 λ_ _ c=>.BV c 0 λ_ _ d=>.ea 13 [d,q] λe=>.fl e 3 λ_ f=>.rr [f]) (.BV p 1 λ_ _ h=>.rr [h])
theorem mi:DO cx 210 aFd:=λ_ _=>by kernel_rfl
def aFe(p q r:Aa):IT:=
 .loop 2 [ff,I 0] (λa=>.ln [p] λb=>.il [g a 1,b] λc=>.AH c (.ea 4 [p,g a 1] λd=>.load (some 4) d λe=>.call 214 [e,r] λf=>.AH f (.call 272 [p,g a 1,q] λh=>.AH h (.rr [tt,g a 1]) (.ia [g a 1,I 1] λj=>.rn [g a 0,j])) (.ia [g a 1,I 1] λk=>.rn [g a 0,k])) (.rx 0 [g a 0,g a 1])) (lx 0 (λm=>.rr [ff]) λm=>.rr [g m 0])
theorem mj:LW cx 211 aFe:=λ_ _ _=>by kernel_rfl
def aFf(p q r:Aa):IT:=
 .ln [p] λa=>.loop 2 [a] (λb=>.ig [g b 0,I 1] λc=>.AH c (.ib [g b 0,I 1] λd=>.ea 4 [p,d] λe=>.load (some 4) e λf=>.cells 4 f λh=>.iq [g h 1,I 1] λj=>.AH j (.rx 0 [g b 0]) (.nt [r] λk=>.AH k (.Be 273 [g h 2] λm=>.nt [m] λn=>.AH n (.rx 0 [g b 0]) (.se [g h 2,q] λo=>.AH o (.rx 0 [g b 0]) (.AH r (.Be 274 [g h 2] λs=>.nt [s] λu=>.AH u (.rx 0 [g b 0]) (.ib [g b 0,I 1] λw=>.rn [w])) (.ib [g b 0,I 1] λy=>.rn [y])))) (.AH r (.Be 274 [g h 2] λz=>.nt [z] λa0=>.AH a0 (.rx 0 [g b 0]) (.ib [g b 0,I 1] λa1=>.rn [a1])) (.ib [g b 0,I 1] λa2=>.rn [a2])))) (.rx 0 [g b 0])) (lx 0 (λa5=>.call 225 [p,g a5 0] λa7=>.KU a7 λa8=>.rr [a8]) λa5=>.KU .slnil λb0=>.rr [b0])
theorem ml:LW cx 212 aFf:=λ_ _ _=>by kernel_rfl
def aFg(p q:Aa):IT:=
 .cells 3 q λa=>.ie [g a 0,I 0] λb=>.AH b (.rr [tt]) (.BV p 2 λ_ _ c=>.call 275 [c,g a 0] λd=>.ih [d,I 0] λe=>.rr [e])
theorem mm:DO cx 213 aFg:=λ_ _=>by kernel_rfl
def aFh(p q:Aa):IT:=
 .cells 4 p λa=>.iq [g a 1,I 1] λb=>.AH b (.rr [ff]) (.loop 4 [ff,I 0] (λc=>.ln [q] λd=>.il [g c 1,d] λe=>.AH e (.ea 1 [q,g c 1] λf=>.ld f λh=>.se [h,g a 2] λj=>.AH j (.rr [tt,g c 1]) (.ia [g c 1,I 1] λk=>.rn [g c 0,k])) (.rx 0 [g c 0,g c 1])) (lx 0 (λm=>.rr [ff]) λm=>.rr [g m 0]))
theorem mn:DO cx 214 aFh:=λ_ _=>by kernel_rfl
def aBl(p q:Aa):IT:=
 .call 275 [p,q] λa=>.il [a,I 0] λb=>.AH b (.ln [p] λc=>.call 225 [p,c] λd=>.KU d λe=>.rr [e]) (.call 225 [p,a] λf=>.KU f λh=>.rr [h])
theorem nW:DO cx 215 aBl:=λ_ _=>by kernel_rfl
def aFi(p q:Aa):IT:=
 .ie [p,I 1] λa=>.AH a (.Be 188 [S aSE,q] λb=>.rr [b]) (.ie [p,I 3] λc=>.AH c (.Be 188 [S aSY,q] λd=>.AH d (.rr [tt]) (.se [q,S aSL] λe=>.rr [e])) (.ie [p,I 2] λf=>.AH f (.Be 188 [S aSN,q] λh=>.rr [h]) (.rr [ff])))
theorem mo:DO cx 216 aFi:=λ_ _=>by kernel_rfl
def aFj(p:Aa):IT:=
 .BV p 2 λ_ _ a=>.call 276 [a] λb=>.cells 4 b λc=>.rr [a4 c]
theorem mq:GP cx 217 aFj:=λ_=>by kernel_rfl
def aFk(p q:Aa):IT:=
 .loop 3 [I (-1),I 0] (λa=>.ln [p] λb=>.il [g a 1,b] λc=>.AH c (.iq [q,I 0] λd=>.AH d (.ea 3 [p,g a 1] λe=>.fl e 0 λ_ f=>.ie [f,q] λh=>.AH h (.ia [g a 1,I 1] λj=>.rn [g a 1,j]) (.ia [g a 1,I 1] λk=>.rn [g a 0,k])) (.ia [g a 1,I 1] λm=>.rn [g a 0,m])) (.rx 0 [g a 0,g a 1])) (lx 0 (λn=>.rr [g n 0]) λn=>.rr [I 0])
theorem mr:DO cx 218 aFk:=λ_ _=>by kernel_rfl
def aFl(p:Aa):IT:=
 .ln [p] λa=>.ib [a,I 1] λb=>.call 225 [p,b] λc=>.KU c λd=>.rr [d]
theorem mv:GP cx 219 aFl:=λ_=>by kernel_rfl
def iZ(p q:Aa):IT:=
 .BV p 3 λ_ _ a=>.call 277 [a,q] λb=>.il [b,I 0] λc=>.AH c (.call 131 [p,q] λ_=>.rr [ff]) (.BV p 3 λ_ _ d=>.ea 3 [d,b] λe=>.load (some 3) e λf=>.cells 3 f λh=>.BV p 2 λ_ _ j=>.call 275 [j,g h 0] λk=>.il [k,I 0] λm=>.AH m (.call 278 [p,g h 0] λ_=>.rr [ff]) (.Dg 200010 (.BV p 2 λ_ _ n=>.call 279 [n,I 1,g h 0] λo=>.nt [o] λs=>.AH s (.rn [tt]) (.ie [k,I 0] λu=>.rn [u])) (nx (λw=>.AH (g w 0) (.rr [ff]) (.BV p 2 λ_ _ y=>.call 280 [y,g h 0] λz=>.il [z,I 0] λa0=>.AH a0 (.BV p 2 λ_ _ a1=>.call 215 [a1,g h 0] λa2=>.fa p 2 λ_ a5=>.store 1 a5 a2 (.call 278 [p,g h 0] λ_=>.rr [ff])) (.BV p 2 λ_ _ a7=>.ea 4 [a7,z] λa8=>.fl a8 0 λ_ b0=>.BV p 2 λ_ _ b1=>.ib [k,I 1] λb2=>.ea 4 [b1,b2] λb3=>.fl b3 0 λ_ b4=>.call 281 [p,b,k,z,b4] λb5=>.op (.ext 0) [b5] λb6=>.op (.ext 1) [b5] λb7=>.call 205 [p,b4] λb8=>.op (.ext 0) [b8] λb9=>.op (.ext 1) [b8] λc0=>.call 99 [p,b9,b6,c0] λ_=>.op (.Br [I 0,S [],ff,S [],ff,S [],ff,ff,.slnil,ff,S [],.int .i32 0] [(0,1),(1,1),(8,1)]) [I 2,g h 1,g h 2] λc1=>.call 140 [p,c1,I 1,b0] λc2=>.cells 4 c2 λc3=>.BV p 0 λ_ _ c4=>.call 186 [c4,b0] λc5=>.loop 24 [I 0] (λc6=>.ln [c5] λc7=>.il [g c6 0,c7] λc8=>.AH c8 (.BV p 0 λ_ _ c9=>.ea 1 [c5,g c6 0] λd0=>.ld d0 λd1=>.call 187 [c9,g c3 0,d1,I 0] λ_=>.ia [g c6 0,I 1] λd2=>.rn [d2]) (.rx 0 [g c6 0])) (lx 0 (λd3=>.BV p 0 λ_ _ d4=>.call 187 [d4,b0,g c3 0,I 0] λ_=>.BV p 3 λ_ _ d5=>.call 218 [d5,g h 0] λd6=>.il [d6,b7] λd7=>.Dg 100168 (.AH d7 (.ib [b7,I 1] λd8=>.rn [d8]) (.rn [b7])) (nx (λd9=>.call 278 [p,g h 0] λ_=>.BV p 3 λ_ _ e0=>.op (.Br [I 0,S [],.slnil] [(0,1),(1,1),(2,1)]) [g c3 0,g h 1,g h 2] λe1=>.call 136 [e0,e1,g d9 0] λe2=>.fa p 3 λ_ e3=>.store 1 e3 e2 (.BV p 2 λ_ _ e4=>.call 282 [e4,g h 0] λe5=>.op (.ext 0) [e5] λe6=>.op (.ext 1) [e5] λ_=>.fa p 2 λ_ e7=>.store 1 e7 e6 (.BV p 2 λ_ e8 e9=>.BV p 2 λ_ _ f0=>.call 275 [f0,b0] λf1=>.ld e8 λf2=>.same e9 f2 (.ia [f1,I 1] λf3=>.call 283 [e9,a4 c3,f3] λf4=>.fa p 2 λ_ f5=>.store 1 f5 f4 (.rr [tt]))))) λd9=>.rr [ff])) λd3=>.rr [ff])))) λw=>.rr [ff])))
theorem OS:DO cx 220 iZ:=λ_ _=>by kernel_rfl
end Go.Am
