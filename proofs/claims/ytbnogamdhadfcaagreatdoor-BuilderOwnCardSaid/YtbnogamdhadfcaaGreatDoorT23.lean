/- Lemmas -/
import Derived.Test.YtbnogamdhadfcaaGreatDoorT10
import Derived.Test.YtbnogamdhadfcaaGreatDoorT18
set_option linter.unusedVariables false
set_option linter.unusedSimpArgs false
namespace Go.Am
open Go
def aEL(p:Aa):IT:=
 .fa p 19 λ_ a=>.store 1 a tt (.rr [.tuple []])
theorem kj:GQ cx 135 aEL:=λ_=>by kernel_rfl
def aEM(p q r:Aa):IT:=
 .cells 3 q λa=>.il [r,I 0] λb=>.AJ b (.ln [p] λc=>.ig [I 0,c] λd=>.AJ d (.ln [p] λe=>.op (.Hv 3 false false true) [p,e] λf=>.op (.append 3 48) [.slnil,f] λh=>.call 223 [a3 a] λj=>.op (.By 3) [j] λk=>.op (.append 3 48) [h,k] λm=>.op (.Hv 3 false true false) [p,e] λn=>.op (.append 3 48) [m,n] λo=>.rr [o]) (.op (.Hv 3 false false true) [p,I 0] λs=>.op (.append 3 48) [.slnil,s] λu=>.call 223 [a3 a] λw=>.op (.By 3) [w] λy=>.op (.append 3 48) [u,y] λz=>.op (.Hv 3 false true false) [p,I 0] λa0=>.op (.append 3 48) [z,a0] λa1=>.rr [a1])) (.ln [p] λa2=>.ig [r,a2] λa5=>.AJ a5 (.ln [p] λa7=>.op (.Hv 3 false false true) [p,a7] λa8=>.op (.append 3 48) [.slnil,a8] λb0=>.call 223 [a3 a] λb1=>.op (.By 3) [b1] λb2=>.op (.append 3 48) [b0,b2] λb3=>.op (.Hv 3 false true false) [p,a7] λb4=>.op (.append 3 48) [b3,b4] λb5=>.rr [b5]) (.op (.Hv 3 false false true) [p,r] λb6=>.op (.append 3 48) [.slnil,b6] λb7=>.call 223 [a3 a] λb8=>.op (.By 3) [b8] λb9=>.op (.append 3 48) [b7,b9] λc1=>.op (.Hv 3 false true false) [p,r] λc2=>.op (.append 3 48) [c1,c2] λc3=>.rr [c3]))
theorem kq:LU cx 136 aEM:=λ_ _ _=>by kernel_rfl
def aAK(p:Aa):IT:=
 .BW p 2 λ_ _ a=>.ln [a] λb=>.il [b,I 2] λc=>.AJ c (.op (.Bs [I 0,I 0,S [],ff] []) [] λd=>.cells 4 d λe=>.rr [a4 e]) (.call 217 [p] λf=>.cells 4 f λh=>.BW p 2 λ_ _ j=>.call 219 [j] λk=>.fa p 2 λ_ m=>.store 1 m k (.cells 4 (a4 h) λn=>.rr [a4 n]))
theorem mO:GQ cx 137 aAK:=λ_=>by kernel_rfl
def aEN(p:Aa):IT:=
 .call 224 [p] λa=>.ib [a,I 1] λb=>.il [b,I 0] λc=>.AJ c (.op (.Hv 3 false false true) [p,I 0] λd=>.op (.append 3 48) [.slnil,d] λe=>.rr [e]) (.op (.Hv 3 false false true) [p,b] λf=>.op (.append 3 48) [.slnil,f] λh=>.rr [h])
theorem ku:GQ cx 138 aEN:=λ_=>by kernel_rfl
def aEO(p q:Aa):IT:=
 .ln [p] λa=>.ib [a,I 1] λb=>.loop 2 [.slnil,b] (λc=>.ih [g c 1,I 0] λd=>.AJ d (.ea 4 [p,g c 1] λe=>.load (some 4) e λf=>.call 214 [f,q] λh=>.AJ h (.call 225 [p,g c 1] λj=>.rr [j,g c 1]) (.ib [g c 1,I 1] λk=>.rn [g c 0,k])) (.rx 0 [g c 0,g c 1])) (lx 0 (λm=>.call 225 [p,I 1] λn=>.KW n λo=>.rr [o]) λm=>.KW (g m 0) λs=>.rr [s])
theorem kx:DU cx 139 aEO:=λ_ _=>by kernel_rfl
def aAL(p q r u:Aa):IT:=
 .cells 12 q λa=>.Bk 78 [r] λb=>.nt [b] λc=>.AJ c (.op (.Bs [I 0,I 0,S [],ff] []) [] λd=>.cells 4 d λe=>.rr [a4 e]) (.call 226 [r,g a 8] λf=>.ie [r,I 2] λh=>.Di 100024 (.AJ h (.Bk 227 [g a 1] λj=>.rn [j]) (.rn [g a 1])) (nx (λk=>.call 228 [p,u,S aSC] λm=>.Di 100029 (.AJ m (.BW p 0 λ_ _ n=>.BW n 0 λ_ _ o=>.ea 13 [o,u] λs=>.fl s 11 λ_ w=>.rn [w]) (.rn [u])) (nx (λy=>.BW p 0 λ_ z a0=>.call 210 [p,g y 0] λa1=>.ld z λa2=>.same a0 a2 (.call 98 [a0,a1,r,g k 0,f] λa5=>.op (.ext 0) [a5] λa7=>.op (.ext 1) [a5] λ_=>.call 100 [r,g k 0,f] λa8=>.op (.Bs [I 0,I 0,S [],ff] [(0,1),(1,1),(2,1),(3,1)]) [a7,r,g k 0,a8] λb0=>.cells 4 b0 λb1=>.rr [a4 b1])) λy=>.rr [.agg [I 0,I 0,S [],ff]])) λk=>.rr [.agg [I 0,I 0,S [],ff]]))
theorem mP:dk cx 140 aAL:=λ_ _ _ _=>by kernel_rfl
def ky(p q r u:Aa):IT:=
 .cells 12 r λa=>.call 85 [p,I 0] λb=>.op (.ext 0) [b] λc=>.op (.ext 1) [b] λd=>.FH q [tX a,u,c] λe=>.cells 4 e λf=>.iq [g f 0,I 0] λh=>.AJ h (.call 47 [p,g f 0,c,d] λ_=>.fa p 2 λ_ j=>.call 48 [j,a4 f] λ_=>.rr [g f 0]) (.rr [g f 0])
theorem Y0:dk cx 141 ky:=λ_ _ _ _=>by kernel_rfl
def aEP(p q r:Aa):IT:=
 .cells 1 r λa=>.call 229 [p,q,.func (.func 230) [] [.CB [g a 0]]] λb=>.rr [b]
theorem kz:LU cx 142 aEP:=λ_ _ _=>by kernel_rfl
def aAM(p q:Aa):IT:=
 .cells 1 q λa=>.call 155 [p,.func (.func 231) [] [.CB [g a 0]],.func (.func 156) [] []] λb=>.rr [b]
theorem mQ:DU cx 143 aAM:=λ_ _=>by kernel_rfl
def aAN(p q:Aa):IT:=
 .cells 1 q λa=>.call 233 [p,.func (.func 234) [] [.CB [g a 0]]] λb=>.rr [b]
theorem mR:DU cx 144 aAN:=λ_ _=>by kernel_rfl
def zM(p:Aa):IT:=
 .op (.Gp false .sl) [p,.slnil] λa=>.AJ a (.rr [.slnil]) (.op (.By 3) [] λb=>.Hw 3 48 b p λc=>.rr [c])
theorem T5:GQ cx 145 zM:=λ_=>by kernel_rfl
def t146(p:Aa):IT:=
 .cells 3 p λa=>.op (.Bs [I 0,S [],ff,S [],ff,S [],ff,ff,.slnil,ff,S [],.int .i32 0] [(0,1),(1,1),(8,1)]) [I 2,g a 1,g a 2] λb=>.cells 12 b λc=>.rr [tX c]
theorem mS:GQ cx 146 t146:=λ_=>by kernel_rfl
def k_(p q:Aa):IT:=
 .cells 1 q λa=>.call 144 [p,g a 0] λb=>.il [b,I 0] λc=>.AJ c (.rr [I 0]) (.call 155 [p,.func (.func 156) [] [],.func (.func 235) [] [.CB [g a 0]]] λd=>.rr [d])
theorem Y1:DU cx 147 k_:=λ_ _=>by kernel_rfl
def t148(p q:Aa):IT:=
 .call 118 [p,q] λa=>.ih [a,I 0] λb=>.rr [b]
theorem Y2:DU cx 148 t148:=λ_ _=>by kernel_rfl
def aEQ(p q:Aa):IT:=
 .cells 3 p λa=>.ie [g a 0,I 0] λb=>.AJ b (.fl q 1 λ_ c=>.se [g a 1,c] λd=>.rr [d]) (.rr [ff])
theorem la:DU cx 149 aEQ:=λ_ _=>by kernel_rfl
def aER(p q r:Aa):IT:=
 .op (.By 1) [q] λa=>.call 107 [p,a] λb=>.iq [b,I 0] λc=>.AJ c (.rr [b]) (.call 43 [p,q] λd=>.fa d 0 λ_ e=>.fl e 0 λ_ f=>.iq [f,I 4] λh=>.AJ h (.rr [I 9]) (.call 161 [r] λj=>.op (.ext 0) [j] λk=>.op (.ext 1) [j] λm=>.nt [m] λn=>.AJ n (.rr [I 2]) (.fa d 0 λ_ o=>.op (.Ec 6) [o] λs=>.store 1 s k (.rr [I 0]))))
theorem lf:LU cx 150 aER:=λ_ _ _=>by kernel_rfl
def aAO(p q:Aa):IT:=
 .cells 1 q λa=>.call 233 [p,.func (.func 236) [] [.CB [g a 0]]] λb=>.rr [b]
theorem mT:DU cx 151 aAO:=λ_ _=>by kernel_rfl
def aES(p:Aa):IT:=
 .call 155 [p,.func (.func 237) [] [],.func (.func 156) [] []] λa=>.rr [a]
theorem lg:GQ cx 152 aES:=λ_=>by kernel_rfl
def aAP(p q r:Aa):IT:=
 .cells 3 q λa=>.op (.Hv 3 false false true) [p,r] λb=>.op (.append 3 48) [.slnil,b] λc=>.op (.By 3) [a3 a] λd=>.op (.append 3 48) [c,d] λe=>.op (.Hv 3 false true false) [p,r] λf=>.op (.append 3 48) [e,f] λh=>.rr [h]
theorem mU:LU cx 153 aAP:=λ_ _ _=>by kernel_rfl
def aAQ(p:Aa):IT:=
 .BW p 0 λ_ _ a=>.ln [a] λb=>.loop 2 [b] (λc=>.ig [g c 0,I 0] λd=>.AJ d (.BW p 0 λ_ _ e=>.ib [g c 0,I 1] λf=>.ea 3 [e,f] λh=>.fl h 0 λ_ j=>.iq [j,I 0] λk=>.AJ k (.ib [g c 0,I 1] λm=>.rn [m]) (.rx 0 [g c 0])) (.rx 0 [g c 0])) (lx 0 (λn=>.rr [g n 0]) λn=>.rr [I 0])
theorem mV:GQ cx 154 aAQ:=λ_=>by kernel_rfl
def aAR(p q r:Aa):IT:=
 .loop 2 [I 0] (λa=>.call 24 [p] λb=>.ig [b,I 1] λc=>.AJ c (.call 91 [p] λd=>.FH q [d] λe=>.nt [e] λf=>.AJ f (.ia [g a 0,I 1] λh=>.call 68 [p] λj=>.FH r [j] λk=>.AJ k (.rx 0 [h]) (.rn [h])) (.rx 0 [g a 0])) (.rx 0 [g a 0])) (lx 0 (λm=>.rr [g m 0]) λm=>.rr [I 0])
theorem mW:LU cx 155 aAR:=λ_ _ _=>by kernel_rfl
def aAS(p:Aa):IT:=
 .cells 4 p λ_=>.rr [ff]
theorem mX:GQ cx 156 aAS:=λ_=>by kernel_rfl
def aET(p q:Aa):IT:=
 .cells 4 p λa=>.ld q λb=>.call 158 [a4 a,b] λc=>.rr [c]
theorem lj:DU cx 157 aET:=λ_ _=>by kernel_rfl
def aAT(p q:Aa):IT:=
 .cells 4 p λa=>.ie [g a 1,I 1] λb=>.AJ b (.call 121 [q,g a 2] λc=>.rr [c]) (.rr [ff])
theorem mY:DU cx 158 aAT:=λ_ _=>by kernel_rfl
def lp(p:Aa):IT:=
 .op (.Gp false .sl) [p,.slnil] λa=>.AJ a (.rr [.slnil]) (.op (.By 1) [] λb=>.FX 1 8 b p λc=>.rr [c])
theorem Y3:GQ cx 159 lp:=λ_=>by kernel_rfl
def aAU(p:Aa):IT:=
 .ln [p] λa=>.loop 2 [ff,I 0] (λb=>.il [g b 1,a] λc=>.AJ c (.ea 1 [p,g b 1] λd=>.ld d λe=>.il [e,I 0] λf=>.AJ f (.rr [ff,g b 1]) (.ig [e,I 7] λh=>.AJ h (.rr [ff,g b 1]) (.ia [g b 1,I 1] λj=>.rn [g b 0,j]))) (.rx 0 [g b 0,g b 1])) (lx 0 (λk=>.rr [tt]) λk=>.rr [g k 0])
theorem mZ:GQ cx 160 aAU:=λ_=>by kernel_rfl
def aAV(p:Aa):IT:=
 .ln [p] λa=>.loop 3 [.slnil,ff,.slnil,I 0] (λb=>.il [g b 3,a] λc=>.AJ c (.ea 3 [p,g b 3] λd=>.load (some 3) d λe=>.cells 3 e λf=>.op (.By 1) [g f 0] λh=>.call 160 [h] λj=>.nt [j] λk=>.AJ k (.rr [.slnil,ff,g b 2,g b 3]) (.call 148 [g b 2,.func (.func 239) [] [.CB [g f 0,g f 1,g f 2]]] λm=>.nt [m] λn=>.AJ n (.load (some 3) (.CB [g f 0,g f 1,g f 2]) λo=>.op (.By 3) [o] λs=>.op (.append 3 40) [g b 2,s] λu=>.ia [g b 3,I 1] λw=>.rn [g b 0,g b 1,u,w]) (.ia [g b 3,I 1] λy=>.rn [g b 0,g b 1,g b 2,y]))) (.rx 0 [g b 0,g b 1,g b 2,g b 3])) (lx 0 (λz=>.rr [.tuple [g z 2,tt]]) λz=>.rr [.tuple [g z 0,g z 1]])
theorem m6:GQ cx 161 aAV:=λ_=>by kernel_rfl
def aEU(p:Aa):IT:=
 .cells 13 p λa=>.ie [g a 0,I 4] λb=>.AJ b (.ie [g a 4,I 1] λc=>.AJ c (.se [g a 5,S aSC] λd=>.rr [d]) (.rr [ff])) (.rr [ff])
theorem lq:GQ cx 163 aEU:=λ_=>by kernel_rfl
def t164(p q:Aa):IT:=
 .ig [q,I 0] λa=>.AJ a (.BW p 0 λ_ _ b=>.ln [b] λc=>.il [q,c] λd=>.rr [d]) (.rr [ff])
theorem ls:DU cx 164 t164:=λ_ _=>by kernel_rfl
def aEV(p q:Aa):IT:=
 .loop 2 [I 0,I 0] (λa=>.ln [p] λb=>.il [g a 1,b] λc=>.AJ c (.ea 1 [p,g a 1] λd=>.ld d λe=>.ie [e,q] λf=>.AJ f (.rr [g a 1,g a 1]) (.ia [g a 1,I 1] λh=>.rn [g a 0,h])) (.rx 0 [g a 0,g a 1])) (lx 0 (λj=>.rr [I (-1)]) λj=>.rr [g j 0])
theorem ly:DU cx 165 aEV:=λ_ _=>by kernel_rfl
def aEW(p q:Aa):IT:=
 .BW p 0 λ_ _ a=>.ea 13 [a,q] λb=>.fl b 1 λ_ c=>.iq [c,I 0] λd=>.AJ d (.BW p 0 λ_ _ e=>.ea 13 [e,q] λf=>.fl f 1 λ_ h=>.rr [h]) (.BW p 0 λ_ _ j=>.ea 13 [j,q] λk=>.fl k 12 λ_ m=>.rr [m])
theorem lz:DU cx 166 aEW:=λ_ _=>by kernel_rfl
def aAW(p q:Aa):IT:=
 .cells 3 p λa=>.cells 3 q λb=>.se [g a 1,g b 1] λc=>.AJ c (.ln [g a 2] λd=>.ln [g b 2] λe=>.ie [d,e] λf=>.AJ f (.FH (.func (.func 241) [] []) [g a 2,g b 2] λh=>.AJ h (.FH (.func (.func 241) [] []) [g b 2,g a 2] λj=>.rr [j]) (.rr [ff])) (.rr [ff])) (.rr [ff])
theorem m7:DU cx 167 aAW:=λ_ _=>by kernel_rfl
def aAX(p q:Aa):IT:=
 .op (.Hv 3 false false true) [p,q] λa=>.op (.append 3 48) [.slnil,a] λb=>.ia [q,I 1] λc=>.op (.Hv 3 false true false) [p,c] λd=>.op (.append 3 48) [b,d] λe=>.rr [e]
theorem m8:DU cx 168 aAX:=λ_ _=>by kernel_rfl
def aAY(p:Aa):IT:=
 .cells 3 p λa=>.call 54 [g a 2] λb=>.cells 1 b λc=>.cells 3 (.agg [g a 0,g a 1,g c 0]) λd=>.rr [a3 d]
theorem m9:GQ cx 169 aAY:=λ_=>by kernel_rfl
def aAZ(p:Aa):IT:=
 .fa p 2 λ_ a=>.fa p 2 λ_ b=>.call 151 [a,S aSI] λc=>.call 151 [b,S aSC] λd=>.ig [d,c] λe=>.AJ e (.fa p 2 λ_ f=>.call 22 [f,d] λh=>.op (.part 0 none) [h] λj=>.rr [.tuple [j,I 0]]) (.il [c,I 0] λk=>.AJ k (.fa p 2 λ_ m=>.call 22 [m,I 0] λn=>.op (.part 0 none) [n] λo=>.rr [.tuple [o,I 0]]) (.fa p 2 λ_ s=>.call 22 [s,c] λu=>.op (.part 0 none) [u] λw=>.BW p 0 λ_ _ y=>.call 244 [y,w] λz=>.iq [z,I 0] λa0=>.AJ a0 (.rr [.tuple [z,w]]) (.fa p 2 λ_ a1=>.ib [c,I 1] λa2=>.op (.Kn true) [a2,I 0] λa5=>.call 22 [a1,a5] λa7=>.op (.part 0 none) [a7] λa8=>.rr [.tuple [a8,I 0]])))
theorem nA:GQ cx 170 aAZ:=λ_=>by kernel_rfl
def l_(p q:Aa):IT:=
 .op (.conv .u32) [q] λa=>.ik [a,.int .u32 2047] λb=>.AJ b (.op (.int .shr) [q,.int .u64 6] λc=>.op (.conv .u8) [c] λd=>.op (.int .or) [.int .u8 192,d] λe=>.op (.conv .u8) [q] λf=>.op (.int .and) [f,.int .u8 63] λh=>.op (.int .or) [.int .u8 128,h] λj=>.op (.By 1) [e,j] λk=>.Fs 1 1 p k λm=>.rr [m]) (.il [a,.int .u32 55296] λn=>.AJ n (.op (.int .shr) [q,.int .u64 12] λo=>.op (.conv .u8) [o] λs=>.op (.int .or) [.int .u8 224,s] λu=>.op (.int .shr) [q,.int .u64 6] λw=>.op (.conv .u8) [w] λy=>.op (.int .and) [y,.int .u8 63] λz=>.op (.int .or) [.int .u8 128,z] λa0=>.op (.conv .u8) [q] λa1=>.op (.int .and) [a1,.int .u8 63] λa2=>.op (.int .or) [.int .u8 128,a2] λa5=>.op (.By 1) [u,a0,a5] λa7=>.Fs 1 1 p a7 λa8=>.rr [a8]) (.il [.int .u32 57343,a] λb0=>.AJ b0 (.ik [a,.int .u32 65535] λb1=>.AJ b1 (.op (.int .shr) [q,.int .u64 12] λb2=>.op (.conv .u8) [b2] λb3=>.op (.int .or) [.int .u8 224,b3] λb4=>.op (.int .shr) [q,.int .u64 6] λb5=>.op (.conv .u8) [b5] λb6=>.op (.int .and) [b6,.int .u8 63] λb7=>.op (.int .or) [.int .u8 128,b7] λb8=>.op (.conv .u8) [q] λb9=>.op (.int .and) [b9,.int .u8 63] λc0=>.op (.int .or) [.int .u8 128,c0] λc1=>.op (.By 1) [b4,b8,c1] λc2=>.Fs 1 1 p c2 λc3=>.rr [c3]) (.ig [a,.int .u32 65535] λc4=>.AJ c4 (.ik [a,.int .u32 1114111] λc5=>.AJ c5 (.op (.int .shr) [q,.int .u64 18] λc6=>.op (.conv .u8) [c6] λc7=>.op (.int .or) [.int .u8 240,c7] λc8=>.op (.int .shr) [q,.int .u64 12] λc9=>.op (.conv .u8) [c9] λd0=>.op (.int .and) [d0,.int .u8 63] λd1=>.op (.int .or) [.int .u8 128,d1] λd2=>.op (.int .shr) [q,.int .u64 6] λd3=>.op (.conv .u8) [d3] λd4=>.op (.int .and) [d4,.int .u8 63] λd5=>.op (.int .or) [.int .u8 128,d5] λd6=>.op (.conv .u8) [q] λd7=>.op (.int .and) [d7,.int .u8 63] λd8=>.op (.int .or) [.int .u8 128,d8] λd9=>.op (.By 1) [c8,d2,d6,d9] λe0=>.Fs 1 1 p e0 λe1=>.rr [e1]) (.op (.By 1) [.int .u8 239,.int .u8 191,.int .u8 189] λe2=>.Fs 1 1 p e2 λe3=>.rr [e3])) (.op (.By 1) [.int .u8 239,.int .u8 191,.int .u8 189] λe4=>.Fs 1 1 p e4 λe5=>.rr [e5]))) (.ig [a,.int .u32 65535] λe6=>.AJ e6 (.ik [a,.int .u32 1114111] λe7=>.AJ e7 (.op (.int .shr) [q,.int .u64 18] λe8=>.op (.conv .u8) [e8] λe9=>.op (.int .or) [.int .u8 240,e9] λf0=>.op (.int .shr) [q,.int .u64 12] λf1=>.op (.conv .u8) [f1] λf2=>.op (.int .and) [f2,.int .u8 63] λf3=>.op (.int .or) [.int .u8 128,f3] λf4=>.op (.int .shr) [q,.int .u64 6] λf5=>.op (.conv .u8) [f5] λf6=>.op (.int .and) [f6,.int .u8 63] λf7=>.op (.int .or) [.int .u8 128,f7] λf8=>.op (.conv .u8) [q] λf9=>.op (.int .and) [f9,.int .u8 63] λh0=>.op (.int .or) [.int .u8 128,h0] λh1=>.op (.By 1) [f0,f4,f8,h1] λh2=>.Fs 1 1 p h2 λh3=>.rr [h3]) (.op (.By 1) [.int .u8 239,.int .u8 191,.int .u8 189] λh4=>.Fs 1 1 p h4 λh5=>.rr [h5])) (.op (.By 1) [.int .u8 239,.int .u8 191,.int .u8 189] λh6=>.Fs 1 1 p h6 λh7=>.rr [h7]))))
theorem Y4:DU cx 171 l_:=λ_ _=>by kernel_rfl
def aA0(p q:Aa):IT:=
 .op (.Tb false) [p,.ptr none] λa=>.AJ a (.rr [I (-1)]) (.BW p 0 λ_ _ b=>.ln [b] λc=>.ib [c,I 1] λd=>.loop 4 [I 0,d] (λe=>.ih [g e 1,I 0] λf=>.AJ f (.BW p 0 λ_ _ h=>.ea 3 [h,g e 1] λj=>.fl j 0 λ_ k=>.iq [k,I 0] λm=>.AJ m (.BW p 0 λ_ _ n=>.ea 3 [n,g e 1] λo=>.fl o 1 λ_ s=>.se [s,q] λu=>.AJ u (.rr [g e 1,g e 1]) (.ib [g e 1,I 1] λw=>.rn [g e 0,w])) (.rx 0 [g e 0,g e 1])) (.rx 0 [g e 0,g e 1])) (lx 0 (λy=>.rr [I (-1)]) λy=>.rr [g y 0]))
theorem nB:DU cx 172 aA0:=λ_ _=>by kernel_rfl
def aA1(p q r:Aa):IT:=
 .fa q 3 λ_ a=>.fl a 0 λ_ b=>.call 145 [b] λc=>.ia [r,I 1] λd=>.call 245 [c,r,d] λe=>.fa q 3 λ_ f=>.op (.Ec 0) [f] λh=>.store 1 h e (.BW p 3 λ_ _ j=>.il [r,j] λk=>.AJ k (.BW p 3 λ_ _ m=>.ib [m,I 1] λn=>.fa p 3 λ_ o=>.store 1 o n (.BW p 4 λ_ _ s=>.il [r,s] λu=>.AJ u (.BW p 4 λ_ _ w=>.ib [w,I 1] λy=>.fa p 4 λ_ z=>.store 1 z y (.Hy 3 q (.rr [.tuple []]))) (.Hy 3 q (.rr [.tuple []])))) (.BW p 4 λ_ _ a0=>.il [r,a0] λa1=>.AJ a1 (.BW p 4 λ_ _ a2=>.ib [a2,I 1] λa5=>.fa p 4 λ_ a7=>.store 1 a7 a5 (.Hy 3 q (.rr [.tuple []]))) (.Hy 3 q (.rr [.tuple []]))))
theorem nC:LU cx 173 aA1:=λ_ _ _=>by kernel_rfl
def aA2(p q r:Aa):IT:=
 .cells 1 r λa=>.call 229 [p,q,.func (.func 246) [] [.CB [g a 0]]] λb=>.rr [b]
theorem nD:LU cx 174 aA2:=λ_ _ _=>by kernel_rfl
def aA3(p q:Aa):IT:=
 .call 144 [p,q] λa=>.ia [a,I 1] λb=>.loop 3 [I 0,b] (λc=>.ih [a,I 0] λd=>.AJ d (.call 24 [p] λe=>.il [g c 1,e] λf=>.AJ f (.BW p 0 λ_ _ h=>.ea 4 [h,g c 1] λj=>.fl j 1 λ_ k=>.BW p 0 λ_ _ m=>.ea 4 [m,g c 1] λn=>.fl n 2 λ_ o=>.Bk 117 [k,o] λs=>.AJ s (.rr [g c 1,g c 1]) (.ia [g c 1,I 1] λu=>.rn [g c 0,u])) (.rx 0 [g c 0,g c 1])) (.rx 0 [g c 0,g c 1])) (lx 0 (λw=>.rr [I (-1)]) λw=>.rr [g w 0])
theorem nE:DU cx 175 aA3:=λ_ _=>by kernel_rfl
def aA4(p q r u:Aa):IT:=
 .ib [u,I 1] λa=>.loop 2 [I 0,a] (λb=>.ig [g b 1,r] λc=>.AJ c (.fa p 2 λ_ d=>.call 22 [d,g b 1] λe=>.cells 4 e λf=>.ia [g b 0,I 1] λh=>.fa p 3 λ_ j=>.call 92 [j,g f 0] λk=>.Di 200007 (.ig [h,I 3] λm=>.AJ m (.ih [k,I 0] λn=>.rn [n]) (.rn [ff])) (λx o=>match x with| .normal=>.Di 100039 (.AJ (g o 0) (.call 173 [q,p,k] λ_=>.fa p 3 λ_ s=>.call 92 [s,g f 0] λw=>.rn [w]) (.rn [k])) (λx y=>match x with| .normal=>.il [g y 0,I 0] λz=>.AJ z (.fa p 2 λ_ a0=>.call 178 [a0,g f 0] λ_=>.ib [g b 1,I 1] λa1=>.rn [h,a1]) (.fa p 3 λ_ a2=>.fl a2 0 λ_ a5=>.ea 3 [a5,g y 0] λa7=>.load (some 3) a7 λa8=>.cells 3 a8 λb0=>.fa q 5 λ_ b1=>.fl b1 0 λb2 b3=>.call 146 [a3 b0] λb4=>.ld b2 λb5=>.same b3 b5 (.call 46 [p,b4,I 1,b3] λb6=>.cells 4 b6 λb7=>.fa p 2 λ_ b8=>.call 247 [b8,g f 0,a4 b7] λ_=>.fa p 3 λ_ b9=>.op (.Bs [I 0,S [],.slnil] [(0,1),(1,1),(2,1)]) [g b7 0,g b0 1,g b0 2] λc0=>.call 248 [b9,g f 0,c0] λ_=>.BW q 13 λ_ _ c2=>.fa q 9 λ_ c3=>.fl c3 0 λ_ c4=>.ie [c2,c4] λc5=>.Di 100104 (.AJ c5 (.ia [g y 0,I 1] λc7=>.fa q 4 λ_ c8=>.store 1 c8 c7 (.rn [])) (.rn [])) (λx _=>match x with| .normal=>.BW q 13 λ_ _ c9=>.call 47 [p,c9,g b7 0,I 0] λ_=>.fa q 13 λ_ d0=>.store 1 d0 (g b7 0) (.ib [g b 1,I 1] λd1=>.rn [h,d1])| .exit i=>if i=1 then .ib [g b 1,I 1] λd2=>.rn [h,d2] else .ret (.exit i) [h,g b 1]| .ret=>.rr [h,g b 1])))| .exit i=>if i=1 then .ib [g b 1,I 1] λd3=>.rn [h,d3] else .ret (.exit i) [h,g b 1]| .ret=>.rr [h,g b 1])| .exit i=>if i=1 then .ib [g b 1,I 1] λd4=>.rn [h,d4] else .ret (.exit i) [h,g b 1]| .ret=>.rr [h,g b 1])) (.rx 0 [g b 0,g b 1])) (lx 0 (λd5=>.rr [.tuple []]) λd5=>.rr [.tuple []])
theorem nF:dk cx 176 aA4:=λ_ _ _ _=>by kernel_rfl
def aA5(p q r:Aa):IT:=
 .cells 3 q λa=>.op (.Tb true) [p,.ptr none] λb=>.AJ b (.BW p 0 λ_ c d=>.op (.Kn true) [r,I 0] λe=>.BW p 0 λ_ f h=>.ln [h] λj=>.op (.Kn false) [e,j] λk=>.call 169 [a3 a] λm=>.ld f λn=>.same h n (.ld c λo=>.same d o (.call 153 [d,m,k] λs=>.fa p 0 λ_ u=>.store 1 u s (.rr [.tuple []])))) (.rr [.tuple []])
theorem nG:LU cx 177 aA5:=λ_ _ _=>by kernel_rfl
def ma(p q:Aa):IT:=
 .call 144 [p,q] λa=>.il [a,I 1] λb=>.AJ b (.rr [ff]) (.BW p 0 λ_ _ c=>.call 249 [c,a] λd=>.fa p 0 λ_ e=>.store 1 e d (.rr [tt]))
theorem Y5:DU cx 178 ma:=λ_ _=>by kernel_rfl
def aA6(p q r:Aa):IT:=
 .cells 4 q λa=>.op (.Tb true) [p,.ptr none] λb=>.AJ b (.BW p 0 λ_ _ c=>.op (.Kn true) [r,I 1] λd=>.BW p 0 λ_ _ e=>.ln [e] λf=>.op (.Kn false) [d,f] λh=>.call 116 [c,a4 a,h] λj=>.fa p 0 λ_ k=>.store 1 k j (.rr [.tuple []])) (.rr [.tuple []])
theorem nH:LU cx 179 aA6:=λ_ _ _=>by kernel_rfl
def aA7(p q:Aa):IT:=
 .BW p 1 λ_ _ a=>.ea 1 [a,q] λb=>.ld b λc=>.ie [c,I 0] λd=>.AJ d (.call 37 [p,ff] λe=>.BW p 1 λ_ _ f=>.ea 1 [f,q] λh=>.store 1 h e (.BW p 1 λ_ _ j=>.ea 1 [j,e] λk=>.store 1 k e (.BW p 1 λ_ _ m=>.ea 1 [m,q] λn=>.ld n λo=>.rr [o]))) (.BW p 1 λ_ _ s=>.ea 1 [s,q] λu=>.ld u λw=>.rr [w])
theorem nI:DU cx 184 aA7:=λ_ _=>by kernel_rfl
def aEX(p q:Aa):IT:=
 .BW p 0 λ_ _ a=>.call 164 [a,q] λb=>.nt [b] λc=>.AJ c (.rr [I 0]) (.BW p 0 λ_ _ d=>.BW d 0 λ_ _ e=>.ea 13 [e,q] λf=>.fl f 0 λ_ h=>.rr [h])
theorem mb:DU cx 185 aEX:=λ_ _=>by kernel_rfl
def aA8(p q:Aa):IT:=
 .call 164 [p,q] λa=>.nt [a] λb=>.AJ b (.rr [.slnil]) (.BW p 0 λ_ _ c=>.ea 13 [c,q] λd=>.fl d 2 λ_ e=>.op (.append 1 8) [.slnil,e] λf=>.rr [f])
theorem nJ:DU cx 186 aA8:=λ_ _=>by kernel_rfl
def aA9(p q r u:Aa):IT:=
 .call 257 [p,q,r,u] λa=>.iq [a,I 0] λb=>.AJ b (.rr [a]) (.call 258 [p,r] λ_=>.loop 7 [.slnil,I 0] (λc=>.BW p 0 λ_ _ d=>.ea 13 [d,q] λe=>.fl e 2 λ_ f=>.ln [f] λh=>.il [g c 1,h] λj=>.AJ j (.BW p 0 λ_ _ k=>.ea 13 [k,q] λm=>.fl m 2 λ_ n=>.ea 1 [n,g c 1] λo=>.ld o λs=>.ie [s,u] λw=>.Di 100048 (.AJ w (.op (.By 1) [r] λy=>.op (.append 1 8) [g c 0,y] λz=>.rn [z]) (.rn [g c 0])) (λx a0=>match x with| .normal=>.BW p 0 λ_ _ a1=>.ea 13 [a1,q] λa2=>.fl a2 2 λ_ a5=>.ea 1 [a5,g c 1] λa7=>.ld a7 λa8=>.op (.By 1) [a8] λb0=>.op (.append 1 8) [g a0 0,b0] λb1=>.ia [g c 1,I 1] λb2=>.rn [b1,b2]| .exit i=>if i=1 then .ia [g c 1,I 1] λb3=>.rn [g a0 0,b3] else .ret (.exit i) [g a0 0,g c 1]| .ret=>.rr [g a0 0,g c 1])) (.rx 0 [g c 0,g c 1])) (lx 0 (λb4=>.ie [u,I 0] λb5=>.Di 100068 (.AJ b5 (.op (.By 1) [r] λb6=>.op (.append 1 8) [g b4 0,b6] λb7=>.rn [b7]) (.rn [g b4 0])) (nx (λb8=>.BW p 0 λ_ _ b9=>.ea 13 [b9,q] λc0=>.op (.Ec 2) [c0] λc1=>.store 1 c1 (g b8 0) (.BW p 0 λ_ _ c2=>.ea 13 [c2,r] λc4=>.op (.Ec 1) [c4] λc5=>.store 1 c5 q (.rr [I 0]))) λb8=>.rr [I 0])) λb4=>.rr [I 0]))
theorem nK:dk cx 187 aA9:=λ_ _ _ _=>by kernel_rfl
def aEY(p q:Aa):IT:=
 .se [q,S []] λa=>.AJ a (.rr [ff]) (.Bk 259 [q,.int .u8 32] λb=>.AJ b (.rr [ff]) (.loop 5 [ff,I 0,I 0] (λc=>.lt [p] λd=>.ik [g c 2,d] λe=>.AJ e (.lt [p] λf=>.ie [g c 2,f] λh=>.AJ h (.op (.Hv 0 true true true) [p,g c 1,g c 2] λj=>.se [j,q] λk=>.AJ k (.rr [tt,g c 1,g c 2]) (.ia [g c 2,I 1] λm=>.ia [g c 2,I 1] λn=>.rn [g c 0,m,n])) (.op .Rw [p,g c 2] λo=>.ie [o,.int .u8 32] λs=>.AJ s (.op (.Hv 0 true true true) [p,g c 1,g c 2] λu=>.se [u,q] λw=>.AJ w (.rr [tt,g c 1,g c 2]) (.ia [g c 2,I 1] λy=>.ia [g c 2,I 1] λz=>.rn [g c 0,y,z])) (.ia [g c 2,I 1] λa0=>.rn [g c 0,g c 1,a0]))) (.rx 0 [g c 0,g c 1,g c 2])) (lx 0 (λa1=>.rr [ff]) λa1=>.rr [g a1 0])))
theorem mc:DU cx 188 aEY:=λ_ _=>by kernel_rfl
def aEZ(p:Aa):IT:=
 .loop 3 [.slnil,I 0] (λa=>.lt [p] λb=>.il [g a 1,b] λc=>.AJ c (.op .Rw [p,g a 1] λd=>.Bk 260 [d] λe=>.AJ e (.ia [d,.int .u8 32] λf=>.op (.By 1) [f] λh=>.op (.append 1 1) [g a 0,h] λj=>.ia [g a 1,I 1] λk=>.rn [j,k]) (.op (.By 1) [d] λm=>.op (.append 1 1) [g a 0,m] λn=>.ia [g a 1,I 1] λo=>.rn [n,o])) (.rx 0 [g a 0,g a 1])) (lx 0 (λs=>.KW (g s 0) λu=>.op .Tc [u] λw=>.rr [w]) λs=>.rr [S []])
theorem me:GQ cx 189 aEZ:=λ_=>by kernel_rfl
def aBa(p q r u:Aa):IT:=
 .cells 4 q λa=>.ie [g a 1,I 1] λb=>.AJ b (.se [g a 2,S aTf] λc=>.AJ c (.call 261 [p,r] λd=>.rr [.tuple [d,tt]]) (.se [g a 2,S [116,100]] λe=>.AJ e (.nt [u] λf=>.AJ f (.rr [.tuple [I 15,tt]]) (.rr [.tuple [I 7,u]])) (.se [g a 2,S [116,104]] λh=>.AJ h (.nt [u] λj=>.AJ j (.rr [.tuple [I 15,tt]]) (.rr [.tuple [I 7,u]])) (.se [g a 2,S [116,114]] λk=>.AJ k (.rr [.tuple [I 14,tt]]) (.se [g a 2,S aS7] λm=>.AJ m (.rr [.tuple [I 13,tt]]) (.se [g a 2,S aS8] λn=>.AJ n (.rr [.tuple [I 13,tt]]) (.se [g a 2,S aS6] λo=>.AJ o (.rr [.tuple [I 13,tt]]) (.se [g a 2,S aSN] λs=>.AJ s (.rr [.tuple [I 11,tt]]) (.se [g a 2,S aSY] λw=>.AJ w (.rr [.tuple [I 12,tt]]) (.se [g a 2,S aSI] λy=>.AJ y (.rr [.tuple [I 9,tt]]) (.se [g a 2,S aSC] λz=>.AJ z (.BW p 6 λ_ _ a0=>.ln [a0] λa1=>.ig [a1,I 0] λa2=>.AJ a2 (.BW p 6 λ_ _ a5=>.BW p 6 λ_ _ a7=>.ln [a7] λa8=>.ib [a8,I 1] λb0=>.ea 1 [a5,b0] λb1=>.ld b1 λb2=>.rr [.tuple [b2,tt]]) (.rr [.tuple [I 7,tt]])) (.se [g a 2,S aTm] λb3=>.AJ b3 (.nt [u] λb4=>.AJ b4 (.rr [.tuple [I 4,tt]]) (.rr [.tuple [I 7,u]])) (.se [g a 2,S [98,111,100,121]] λb5=>.AJ b5 (.rr [.tuple [I 7,tt]]) (.se [g a 2,S aTe] λb6=>.AJ b6 (.rr [.tuple [I 20,tt]]) (.se [g a 2,S aSL] λb7=>.AJ b7 (.BW p 7 λ_ _ b8=>.ie [b8,I 0] λb9=>.AJ b9 (.rr [.tuple [I 3,tt]]) (.rr [.tuple [I 6,tt]])) (.rr [.tuple [I 7,u]])))))))))))))))) (.rr [.tuple [I 7,u]])
theorem nL:dk cx 190 aBa:=λ_ _ _ _=>by kernel_rfl
def aE0(p q:Aa):IT:=
 .cells 13 p λa=>.cells 13 q λb=>.call 262 [Ts a,Ts b] λc=>.AJ c (.call 35 [g a 2,g b 2] λd=>.AJ d (.ie [g a 1,g b 1] λe=>.AJ e (.ie [g a 3,g b 3] λf=>.AJ f (.ie [g a 11,g b 11] λh=>.AJ h (.ie [g a 12,g b 12] λj=>.rr [j]) (.rr [ff])) (.rr [ff])) (.rr [ff])) (.rr [ff])) (.rr [ff])
theorem mf:DU cx 191 aE0:=λ_ _=>by kernel_rfl
def aE1(p:Aa):IT:=
 .cells 13 p λa=>.op (.append 1 8) [.slnil,g a 2] λb=>.cells 1 b λc=>.op (.append 3 40) [.slnil,g a 6] λd=>.cells 1 d λe=>.cells 13 (.agg [g a 0,g a 1,g c 0,g a 3,g a 4,g a 5,g e 0,g a 7,g a 8,g a 9,g a 10,g a 11,g a 12]) λf=>.rr [Ts f]
theorem mg:GQ cx 192 aE1:=λ_=>by kernel_rfl
def aBb(p:Aa):IT:=
 .Bk 194 [p,S aSx] λa=>.rr [a]
theorem nM:GQ cx 193 aBb:=λ_=>by kernel_rfl
def aBc(p q:Aa):IT:=
 .call 263 [q] λa=>.ln [a] λb=>.loop 2 [S [],I 0] (λc=>.il [g c 1,b] λd=>.AJ d (.ea 1 [a,g c 1] λe=>.ld e λf=>.Bk 201 [f] λh=>.se [h,p] λj=>.AJ j (.rr [f,g c 1]) (.ia [g c 1,I 1] λk=>.rn [g c 0,k])) (.rx 0 [g c 0,g c 1])) (lx 0 (λm=>.rr [p]) λm=>.rr [g m 0])
theorem nN:DU cx 194 aBc:=λ_ _=>by kernel_rfl
def zN(p q:Aa):IT:=
 .BW p 1 λ_ _ a=>.mem (.dx i0 true) [a,q] λb=>.op (.ext 0) [b] λc=>.op (.ext 1) [b] λd=>.AJ d (.rr [c]) (.call 13 [p,ff] λe=>.BW p 1 λ_ _ f=>.op (.Gp false .mp) [f,.map none] λh=>.AJ h (.O4 λj=>.fa p 1 λ_ k=>.store 1 k j (.BW p 1 λ_ _ m=>.BW p 1 λ_ _ n=>.mem (.MH i0) [m,q] λo=>.op (.ext 1) [o] λs=>.mem .LK [m,s,e] λ_=>.mem (.MH i0) [n,e] λu=>.op (.ext 1) [u] λw=>.mem .LK [n,w,e] λ_=>.rr [e])) (.BW p 1 λ_ _ y=>.BW p 1 λ_ _ z=>.mem (.MH i0) [y,q] λa0=>.op (.ext 1) [a0] λa1=>.mem .LK [y,a1,e] λ_=>.mem (.MH i0) [z,e] λa2=>.op (.ext 1) [a2] λa5=>.mem .LK [z,a5,e] λ_=>.rr [e]))
theorem T6:DU cx 195 zN:=λ_ _=>by kernel_rfl
def aBd(p q:Aa):IT:=
 .ln [p] λa=>.loop 2 [I 0,I 0] (λb=>.il [g b 1,a] λc=>.AJ c (.ea 1 [p,g b 1] λd=>.ld d λe=>.FH q [e] λf=>.AJ f (.rr [g b 1,g b 1]) (.ia [g b 1,I 1] λh=>.rn [g b 0,h])) (.rx 0 [g b 0,g b 1])) (lx 0 (λj=>.rr [I (-1)]) λj=>.rr [g j 0])
theorem nO:DU cx 196 aBd:=λ_ _=>by kernel_rfl
def mh(p q:Aa):IT:=
 .call 43 [p,q] λa=>.fa a 0 λ_ b=>.fl b 1 λ_ c=>.ie [c,I 0] λd=>.AJ d (.rr [.tuple []]) (.fa a 0 λ_ e=>.fl e 1 λ_ f=>.call 43 [p,f] λh=>.fa h 0 λ_ j=>.fl j 2 λ_ k=>.call 87 [k,q] λm=>.fa h 0 λ_ n=>.fl n 2 λ_ o=>.ia [m,I 1] λs=>.call 265 [o,m,s] λu=>.fa h 0 λ_ w=>.op (.Ec 2) [w] λy=>.store 1 y u (.fa a 0 λ_ z=>.op (.Ec 1) [z] λa0=>.store 1 a0 i0 (.rr [.tuple []])))
theorem Y6:DU cx 198 mh:=λ_ _=>by kernel_rfl
def aBe(p q:Aa):IT:=
 .ie [p,I 3] λa=>.AJ a (.se [q,S [109,105]] λb=>.AJ b (.rr [tt]) (.se [q,S [109,110]] λc=>.AJ c (.rr [tt]) (.se [q,S [109,111]] λd=>.AJ d (.rr [tt]) (.se [q,S [109,115]] λe=>.AJ e (.rr [tt]) (.se [q,S [109,116,101,120,116]] λf=>.rr [f]))))) (.rr [ff])
theorem nQ:DU cx 200 aBe:=λ_ _=>by kernel_rfl
def aBf(p:Aa):IT:=
 .Fb p λa=>.ln [a] λb=>.loop 3 [I 0] (λc=>.il [g c 0,b] λd=>.AJ d (.ea 1 [a,g c 0] λe=>.ld e λf=>.op (.conv .i32) [f] λh=>.Bk 268 [h] λj=>.AJ j (.ib [f,.int .u8 65] λk=>.ia [k,.int .u8 97] λm=>.ea 1 [a,g c 0] λn=>.store 1 n m (.ia [g c 0,I 1] λo=>.rn [o])) (.ia [g c 0,I 1] λs=>.rn [s])) (.rx 0 [g c 0])) (lx 0 (λu=>.KW a λw=>.op .Tc [w] λy=>.rr [y]) λu=>.rr [S []])
theorem nS:GQ cx 201 aBf:=λ_=>by kernel_rfl
def aBg(p q:Aa):IT:=
 .ln [p] λa=>.loop 2 [I 0,I 0] (λb=>.il [g b 1,a] λc=>.AJ c (.ea 1 [p,g b 1] λd=>.ld d λe=>.se [q,e] λf=>.AJ f (.rr [g b 1,g b 1]) (.ia [g b 1,I 1] λh=>.rn [g b 0,h])) (.rx 0 [g b 0,g b 1])) (lx 0 (λj=>.rr [I (-1)]) λj=>.rr [g j 0])
theorem nT:DU cx 202 aBg:=λ_ _=>by kernel_rfl
def aBh:IT:=
 .op (.Bs [S [],I 0] [(0,1),(1,1)]) [S [116,114],I 14] λa=>.op (.Bs [S [],I 0] [(0,1),(1,1)]) [S aS7,I 13] λb=>.op (.Bs [S [],I 0] [(0,1),(1,1)]) [S aS8,I 13] λc=>.op (.Bs [S [],I 0] [(0,1),(1,1)]) [S aS6,I 13] λd=>.op (.Bs [S [],I 0] [(0,1),(1,1)]) [S aSN,I 11] λe=>.op (.Bs [S [],I 0] [(0,1),(1,1)]) [S aSY,I 12] λf=>.op (.Bs [S [],I 0] [(0,1),(1,1)]) [S aSI,I 9] λh=>.op (.Bs [S [],I 0] [(0,1),(1,1)]) [S [98,111,100,121],I 7] λj=>.op (.Bs [S [],I 0] [(0,1),(1,1)]) [S aTe,I 20] λk=>.op (.By 2) [a,b,c,d,e,f,h,j,k] λm=>.rr [m]
theorem nU:B5 cx 203 []=aBh:=by kernel_rfl
def aBi(p q:Aa):IT:=
 .ib [q,I 1] λa=>.loop 2 [I 0,a] (λb=>.ih [g b 1,I 0] λc=>.AJ c (.fa p 2 λ_ d=>.call 22 [d,g b 1] λe=>.op (.By 1) [S aSC] λf=>.call 50 [e,f] λh=>.AJ h (.rx 0 [g b 0,g b 1]) (.fa p 2 λ_ j=>.call 22 [j,g b 1] λk=>.op (.By 1) [S aSI] λm=>.call 50 [k,m] λn=>.AJ n (.rr [I 17,g b 1]) (.ib [g b 1,I 1] λo=>.rn [g b 0,o]))) (.rx 0 [g b 0,g b 1])) (lx 0 (λs=>.rr [I 16]) λs=>.rr [g s 0])
theorem nV:DU cx 204 aBi:=λ_ _=>by kernel_rfl
def aE2(p q:Aa):IT:=
 .ie [q,I 0] λa=>.Di 100009 (.AJ a (.BW p 2 λ_ _ b=>.ln [b] λc=>.ie [c,I 0] λd=>.AJ d (.BW p 1 λ_ _ e=>.rr [q,e,I 0]) (.call 217 [p] λf=>.op (.part 0 none) [f] λh=>.rn [h,I 0,I 0])) (.rn [q,I 0,I 0])) (nx (λj=>.Di 200006 (.BW p 15 λ_ _ k=>.AJ k (.call 228 [p,g j 0,S aSG] λm=>.rn [m]) (.rn [ff])) (nx (λn=>.Di 100032 (.AJ (g n 0) (.call 269 [p] λo=>.op (.ext 0) [o] λs=>.op (.ext 1) [o] λu=>.rn [s,u]) (.rn [g j 0,I 0])) (nx (λw=>.call 228 [p,g w 0,S aSC] λy=>.AJ y (.BW p 0 λ_ _ z=>.BW z 0 λ_ _ a0=>.ea 13 [a0,g w 0] λa1=>.fl a1 11 λ_ a2=>.rr [.tuple [a2,I 0]]) (.rr [.tuple [g w 0,g w 1]])) λw=>.rr [.tuple [g j 1,g j 2]])) λn=>.rr [.tuple [g j 1,g j 2]])) λj=>.rr [.tuple [g j 1,g j 2]])
theorem mi:DU cx 205 aE2:=λ_ _=>by kernel_rfl
def aE3(p q:Aa):IT:=
 .cells 3 q λa=>.call 224 [p] λb=>.loop 3 [I (-1),I 0,b] (λc=>.ln [p] λd=>.il [g c 2,d] λe=>.AJ e (.ea 3 [p,g c 2] λf=>.load (some 3) f λh=>.call 270 [h,a3 a] λj=>.AJ j (.ia [g c 1,I 1] λk=>.il [g c 0,I 0] λm=>.AJ m (.ia [g c 2,I 1] λn=>.rn [g c 2,k,n]) (.ia [g c 2,I 1] λo=>.rn [g c 0,k,o])) (.ia [g c 2,I 1] λs=>.rn [g c 0,g c 1,s])) (.rx 0 [g c 0,g c 1,g c 2])) (lx 0 (λu=>.iq [g a 0,I 0] λw=>.AJ w (.ih [g u 1,I 3] λy=>.AJ y (.call 271 [p,g u 0] λz=>.ln [z] λa0=>.call 136 [z,a3 a,a0] λa1=>.rr [a1]) (.ln [p] λa2=>.call 136 [p,a3 a,a2] λa5=>.rr [a5])) (.ln [p] λa7=>.call 136 [p,a3 a,a7] λa8=>.rr [a8])) λu=>.rr [.slnil])
theorem mj:DU cx 206 aE3:=λ_ _=>by kernel_rfl
def aE4(p:Aa):IT:=
 .ih [p,.int .i32 0] λa=>.AJ a (.ik [p,.int .i32 55295] λb=>.AJ b (.rr [tt]) (.ih [p,.int .i32 57344] λc=>.AJ c (.ik [p,.int .i32 1114111] λd=>.rr [d]) (.rr [ff]))) (.ih [p,.int .i32 57344] λe=>.AJ e (.ik [p,.int .i32 1114111] λf=>.rr [f]) (.rr [ff]))
theorem ml:GQ cx 207 aE4:=λ_=>by kernel_rfl
def aE5(p:Aa):IT:=
 .op (.conv .i64) [p] λa=>.il [a,I 128] λb=>.AJ b (.op (.conv .u8) [a] λc=>.op (.By 1) [c] λd=>.rr [d]) (.il [a,I 2048] λe=>.AJ e (.op (.int .quo) [a,I 64] λf=>.ia [I 192,f] λh=>.op (.conv .u8) [h] λj=>.op (.int .rem) [a,I 64] λk=>.ia [I 128,k] λm=>.op (.conv .u8) [m] λn=>.op (.By 1) [j,n] λo=>.rr [o]) (.il [a,I 65536] λs=>.AJ s (.op (.int .quo) [a,I 4096] λu=>.ia [I 224,u] λw=>.op (.conv .u8) [w] λy=>.op (.int .quo) [a,I 64] λz=>.op (.int .rem) [z,I 64] λa0=>.ia [I 128,a0] λa1=>.op (.conv .u8) [a1] λa2=>.op (.int .rem) [a,I 64] λa5=>.ia [I 128,a5] λa7=>.op (.conv .u8) [a7] λa8=>.op (.By 1) [y,a2,a8] λb0=>.rr [b0]) (.op (.int .quo) [a,I 262144] λb1=>.ia [I 240,b1] λb2=>.op (.conv .u8) [b2] λb3=>.op (.int .quo) [a,I 4096] λb4=>.op (.int .rem) [b4,I 64] λb5=>.ia [I 128,b5] λb6=>.op (.conv .u8) [b6] λb7=>.op (.int .quo) [a,I 64] λb8=>.op (.int .rem) [b8,I 64] λb9=>.ia [I 128,b9] λc0=>.op (.conv .u8) [c0] λc1=>.op (.int .rem) [a,I 64] λc2=>.ia [I 128,c2] λc3=>.op (.conv .u8) [c3] λc4=>.op (.By 1) [b3,b7,c1,c4] λc5=>.rr [c5])))
theorem mm:GQ cx 208 aE5:=λ_=>by kernel_rfl
def aE6(p q r:Aa):IT:=
 .cells 13 r λa=>.call 102 [p,q] λb=>.iq [b,I 0] λc=>.AJ c (.rr [.tuple [I 0,b]]) (.cells 1 q λd=>.call 97 [p,.agg [g a 0,g a 1,g a 2,g d 0,g a 4,g a 5,g a 6,g a 7,g a 8,g a 9,g a 10,g a 11,g a 12]] λe=>.rr [.tuple [e,I 0]])
theorem mn:LU cx 209 aE6:=λ_ _ _=>by kernel_rfl
def aE7(p q:Aa):IT:=
 .BW p 0 λ_ _ a=>.call 164 [a,q] λb=>.AJ b (.BW p 0 λ_ _ c=>.BW c 0 λ_ _ d=>.ea 13 [d,q] λe=>.fl e 3 λ_ f=>.rr [f]) (.BW p 1 λ_ _ h=>.rr [h])
theorem mo:DU cx 210 aE7:=λ_ _=>by kernel_rfl
def aE8(p q r:Aa):IT:=
 .loop 2 [ff,I 0] (λa=>.ln [p] λb=>.il [g a 1,b] λc=>.AJ c (.ea 4 [p,g a 1] λd=>.load (some 4) d λe=>.call 214 [e,r] λf=>.AJ f (.call 272 [p,g a 1,q] λh=>.AJ h (.rr [tt,g a 1]) (.ia [g a 1,I 1] λj=>.rn [g a 0,j])) (.ia [g a 1,I 1] λk=>.rn [g a 0,k])) (.rx 0 [g a 0,g a 1])) (lx 0 (λm=>.rr [ff]) λm=>.rr [g m 0])
theorem mq:LU cx 211 aE8:=λ_ _ _=>by kernel_rfl
def aE9(p q r:Aa):IT:=
 .ln [p] λa=>.loop 2 [a] (λb=>.ig [g b 0,I 1] λc=>.AJ c (.ib [g b 0,I 1] λd=>.ea 4 [p,d] λe=>.load (some 4) e λf=>.cells 4 f λh=>.iq [g h 1,I 1] λj=>.AJ j (.rx 0 [g b 0]) (.nt [r] λk=>.AJ k (.Bk 273 [g h 2] λm=>.nt [m] λn=>.AJ n (.rx 0 [g b 0]) (.se [g h 2,q] λo=>.AJ o (.rx 0 [g b 0]) (.AJ r (.Bk 274 [g h 2] λs=>.nt [s] λu=>.AJ u (.rx 0 [g b 0]) (.ib [g b 0,I 1] λw=>.rn [w])) (.ib [g b 0,I 1] λy=>.rn [y])))) (.AJ r (.Bk 274 [g h 2] λz=>.nt [z] λa0=>.AJ a0 (.rx 0 [g b 0]) (.ib [g b 0,I 1] λa1=>.rn [a1])) (.ib [g b 0,I 1] λa2=>.rn [a2])))) (.rx 0 [g b 0])) (lx 0 (λa5=>.call 225 [p,g a5 0] λa7=>.KW a7 λa8=>.rr [a8]) λa5=>.KW .slnil λb0=>.rr [b0])
theorem mr:LU cx 212 aE9:=λ_ _ _=>by kernel_rfl
def aFa(p q:Aa):IT:=
 .cells 3 q λa=>.ie [g a 0,I 0] λb=>.AJ b (.rr [tt]) (.BW p 2 λ_ _ c=>.call 275 [c,g a 0] λd=>.ih [d,I 0] λe=>.rr [e])
theorem mv:DU cx 213 aFa:=λ_ _=>by kernel_rfl
def aFb(p q:Aa):IT:=
 .cells 4 p λa=>.iq [g a 1,I 1] λb=>.AJ b (.rr [ff]) (.loop 4 [ff,I 0] (λc=>.ln [q] λd=>.il [g c 1,d] λe=>.AJ e (.ea 1 [q,g c 1] λf=>.ld f λh=>.se [h,g a 2] λj=>.AJ j (.rr [tt,g c 1]) (.ia [g c 1,I 1] λk=>.rn [g c 0,k])) (.rx 0 [g c 0,g c 1])) (lx 0 (λm=>.rr [ff]) λm=>.rr [g m 0]))
theorem mw:DU cx 214 aFb:=λ_ _=>by kernel_rfl
def aBj(p q:Aa):IT:=
 .call 275 [p,q] λa=>.il [a,I 0] λb=>.AJ b (.ln [p] λc=>.call 225 [p,c] λd=>.KW d λe=>.rr [e]) (.call 225 [p,a] λf=>.KW f λh=>.rr [h])
theorem nW:DU cx 215 aBj:=λ_ _=>by kernel_rfl
def aFc(p q:Aa):IT:=
 .ie [p,I 1] λa=>.AJ a (.Bk 188 [S aSy,q] λb=>.rr [b]) (.ie [p,I 3] λc=>.AJ c (.Bk 188 [S aSS,q] λd=>.AJ d (.rr [tt]) (.se [q,S aSF] λe=>.rr [e])) (.ie [p,I 2] λf=>.AJ f (.Bk 188 [S aSH,q] λh=>.rr [h]) (.rr [ff])))
theorem my:DU cx 216 aFc:=λ_ _=>by kernel_rfl
def aFd(p:Aa):IT:=
 .BW p 2 λ_ _ a=>.call 276 [a] λb=>.cells 4 b λc=>.rr [a4 c]
theorem mz:GQ cx 217 aFd:=λ_=>by kernel_rfl
def aFe(p q:Aa):IT:=
 .loop 3 [I (-1),I 0] (λa=>.ln [p] λb=>.il [g a 1,b] λc=>.AJ c (.iq [q,I 0] λd=>.AJ d (.ea 3 [p,g a 1] λe=>.fl e 0 λ_ f=>.ie [f,q] λh=>.AJ h (.ia [g a 1,I 1] λj=>.rn [g a 1,j]) (.ia [g a 1,I 1] λk=>.rn [g a 0,k])) (.ia [g a 1,I 1] λm=>.rn [g a 0,m])) (.rx 0 [g a 0,g a 1])) (lx 0 (λn=>.rr [g n 0]) λn=>.rr [I 0])
theorem m_:DU cx 218 aFe:=λ_ _=>by kernel_rfl
def aFf(p:Aa):IT:=
 .ln [p] λa=>.ib [a,I 1] λb=>.call 225 [p,b] λc=>.KW c λd=>.rr [d]
theorem nc:GQ cx 219 aFf:=λ_=>by kernel_rfl
def iW(p q:Aa):IT:=
 .BW p 3 λ_ _ a=>.call 277 [a,q] λb=>.il [b,I 0] λc=>.AJ c (.call 131 [p,q] λ_=>.rr [ff]) (.BW p 3 λ_ _ d=>.ea 3 [d,b] λe=>.load (some 3) e λf=>.cells 3 f λh=>.BW p 2 λ_ _ j=>.call 275 [j,g h 0] λk=>.il [k,I 0] λm=>.AJ m (.call 278 [p,g h 0] λ_=>.rr [ff]) (.Di 200010 (.BW p 2 λ_ _ n=>.call 279 [n,I 1,g h 0] λo=>.nt [o] λs=>.AJ s (.rn [tt]) (.ie [k,I 0] λu=>.rn [u])) (nx (λw=>.AJ (g w 0) (.rr [ff]) (.BW p 2 λ_ _ y=>.call 280 [y,g h 0] λz=>.il [z,I 0] λa0=>.AJ a0 (.BW p 2 λ_ _ a1=>.call 215 [a1,g h 0] λa2=>.fa p 2 λ_ a5=>.store 1 a5 a2 (.call 278 [p,g h 0] λ_=>.rr [ff])) (.BW p 2 λ_ _ a7=>.ea 4 [a7,z] λa8=>.fl a8 0 λ_ b0=>.BW p 2 λ_ _ b1=>.ib [k,I 1] λb2=>.ea 4 [b1,b2] λb3=>.fl b3 0 λ_ b4=>.call 281 [p,b,k,z,b4] λb5=>.op (.ext 0) [b5] λb6=>.op (.ext 1) [b5] λb7=>.call 205 [p,b4] λb8=>.op (.ext 0) [b8] λb9=>.op (.ext 1) [b8] λc0=>.call 99 [p,b9,b6,c0] λ_=>.op (.Bs [I 0,S [],ff,S [],ff,S [],ff,ff,.slnil,ff,S [],.int .i32 0] [(0,1),(1,1),(8,1)]) [I 2,g h 1,g h 2] λc1=>.call 140 [p,c1,I 1,b0] λc2=>.cells 4 c2 λc3=>.BW p 0 λ_ _ c4=>.call 186 [c4,b0] λc5=>.loop 24 [I 0] (λc6=>.ln [c5] λc7=>.il [g c6 0,c7] λc8=>.AJ c8 (.BW p 0 λ_ _ c9=>.ea 1 [c5,g c6 0] λd0=>.ld d0 λd1=>.call 187 [c9,g c3 0,d1,I 0] λ_=>.ia [g c6 0,I 1] λd2=>.rn [d2]) (.rx 0 [g c6 0])) (lx 0 (λd3=>.BW p 0 λ_ _ d4=>.call 187 [d4,b0,g c3 0,I 0] λ_=>.BW p 3 λ_ _ d5=>.call 218 [d5,g h 0] λd6=>.il [d6,b7] λd7=>.Di 100168 (.AJ d7 (.ib [b7,I 1] λd8=>.rn [d8]) (.rn [b7])) (nx (λd9=>.call 278 [p,g h 0] λ_=>.BW p 3 λ_ _ e0=>.op (.Bs [I 0,S [],.slnil] [(0,1),(1,1),(2,1)]) [g c3 0,g h 1,g h 2] λe1=>.call 136 [e0,e1,g d9 0] λe2=>.fa p 3 λ_ e3=>.store 1 e3 e2 (.BW p 2 λ_ _ e4=>.call 282 [e4,g h 0] λe5=>.op (.ext 0) [e5] λe6=>.op (.ext 1) [e5] λ_=>.fa p 2 λ_ e7=>.store 1 e7 e6 (.BW p 2 λ_ e8 e9=>.BW p 2 λ_ _ f0=>.call 275 [f0,b0] λf1=>.ld e8 λf2=>.same e9 f2 (.ia [f1,I 1] λf3=>.call 283 [e9,a4 c3,f3] λf4=>.fa p 2 λ_ f5=>.store 1 f5 f4 (.rr [tt]))))) λd9=>.rr [ff])) λd3=>.rr [ff])))) λw=>.rr [ff])))
theorem OY:DU cx 220 iW:=λ_ _=>by kernel_rfl
end Go.Am
