/- Lemmas -/
import Derived.Test.YtefjamneieebhaaGreatDoorS10
import Derived.Test.YtefjamneieebhaaGreatDoorS18
set_option linter.unusedVariables false
set_option linter.unusedSimpArgs false
namespace Go.Am
open Go
def k_(p q:Aa):IT:=
 .op (.Bx 1) [q] λa=>.call 155 [p,a] λb=>.iq [b,I 0] λc=>.AH c (.op (.Bs [I 0,I 0,.slnil,I 0,I 0,S [],.slnil,S [],S [],S [],ff,I 0,I 0] []) [] λd=>.cells 13 d λe=>.rr [.tuple [WM e,b]]) (.call 145 [p,q] λf=>.call 204 [f] λh=>.cells 13 h λj=>.rr [.tuple [WM j,I 0]])
theorem Y4:DR cx 136 k_:=λ_ _=>by kernel_rfl
def aAS(p q:Aa):IT:=
 .cells 1 q λa=>.call 207 [p,.func (.func 223) [] [.CA [g a 0]]] λb=>.rr [b]
theorem mX:DR cx 137 aAS:=λ_ _=>by kernel_rfl
def la(p q:Aa):IT:=
 .call 64 [p,q] λa=>.nt [a] λb=>.AH b (.rr [I 0]) (.call 145 [p,q] λc=>.fa c 0 λ_ d=>.fl d 1 λ_ e=>.rr [e])
theorem Y5:DR cx 138 la:=λ_ _=>by kernel_rfl
def aEX(p q:Aa):IT:=
 .BY p 0 λ_ _ a=>.call 220 [a,q] λb=>.nt [b] λc=>.AH c (.rr [I 0]) (.BY p 0 λ_ _ d=>.BY d 0 λ_ _ e=>.ea 13 [e,q] λf=>.fl f 0 λ_ h=>.rr [h])
theorem lf:DR cx 139 aEX:=λ_ _=>by kernel_rfl
def aEY(p q:Aa):IT:=
 .se [q,S []] λa=>.AH a (.rr [ff]) (.Bc 224 [q,.int .u8 32] λb=>.AH b (.rr [ff]) (.loop 5 [ff,I 0,I 0] (λc=>.lt [p] λd=>.ik [g c 2,d] λe=>.AH e (.lt [p] λf=>.ie [g c 2,f] λh=>.AH h (.op (.Hq 0 true true true) [p,g c 1,g c 2] λj=>.se [j,q] λk=>.AH k (.rr [tt,g c 1,g c 2]) (.ia [g c 2,I 1] λm=>.ia [g c 2,I 1] λn=>.rn [g c 0,m,n])) (.op .RD [p,g c 2] λo=>.ie [o,.int .u8 32] λs=>.AH s (.op (.Hq 0 true true true) [p,g c 1,g c 2] λu=>.se [u,q] λw=>.AH w (.rr [tt,g c 1,g c 2]) (.ia [g c 2,I 1] λy=>.ia [g c 2,I 1] λz=>.rn [g c 0,y,z])) (.ia [g c 2,I 1] λa0=>.rn [g c 0,g c 1,a0]))) (.rx 0 [g c 0,g c 1,g c 2])) (lx 0 (λa1=>.rr [ff]) λa1=>.rr [g a1 0])))
theorem lg:DR cx 140 aEY:=λ_ _=>by kernel_rfl
def aEZ(p q:Aa):IT:=
 .loop 3 [I (-1),I 0] (λa=>.ln [p] λb=>.il [g a 1,b] λc=>.AH c (.ea 4 [p,g a 1] λd=>.load (some 4) d λe=>.op (.Bx 1) [q] λf=>.call 40 [e,f] λh=>.AH h (.ia [g a 1,I 1] λj=>.rn [g a 1,j]) (.ia [g a 1,I 1] λk=>.rn [g a 0,k])) (.rx 0 [g a 0,g a 1])) (lx 0 (λm=>.rr [g m 0]) λm=>.rr [I 0])
theorem lj:DR cx 141 aEZ:=λ_ _=>by kernel_rfl
def aE0(p q:Aa):IT:=
 .il [q,I 0] λa=>.AH a (.op (.Bs [I 0,I 0,S [],ff] []) [] λb=>.cells 4 b λc=>.rr [a4 c]) (.ln [p] λd=>.ih [q,d] λe=>.AH e (.op (.Bs [I 0,I 0,S [],ff] []) [] λf=>.cells 4 f λh=>.rr [a4 h]) (.ea 4 [p,q] λj=>.load (some 4) j λk=>.cells 4 k λm=>.rr [a4 m]))
theorem lp:DR cx 142 aE0:=λ_ _=>by kernel_rfl
def aE1(p q:Aa):IT:=
 .call 220 [p,q] λa=>.nt [a] λb=>.AH b (.rr [I 0]) (.BY p 0 λ_ _ c=>.ea 13 [c,q] λd=>.fl d 1 λ_ e=>.rr [e])
theorem lq:DR cx 143 aE1:=λ_ _=>by kernel_rfl
def ls(p q:Aa):IT:=
 .cells 13 q λa=>.BY p 0 λ_ _ b=>.op (.Bs [I 0,I 0,.slnil,I 0,I 0,S [],.slnil,S [],S [],S [],ff,I 0,I 0] [(0,13)]) [WM a] λc=>.op (.Bx 13) [c] λd=>.FE 13 168 b d λe=>.fa p 0 λ_ f=>.store 1 f e (.BY p 0 λ_ _ h=>.ln [h] λj=>.rr [j])
theorem Y6:DR cx 144 ls:=λ_ _=>by kernel_rfl
def ly(p q:Aa):IT:=
 .BY p 0 λ_ _ a=>.ib [q,I 1] λb=>.ea 13 [a,b] λc=>.rr [c]
theorem Y7:DR cx 145 ly:=λ_ _=>by kernel_rfl
def t146(p q:Aa):IT:=
 .cells 4 q λa=>.op (.Tg true) [p,.ptr none] λb=>.AH b (.BY p 0 λ_ _ c=>.BY p 0 λ_ _ d=>.ln [d] λe=>.call 217 [c,a4 a,e] λf=>.fa p 0 λ_ h=>.store 1 h f (.rr [.tuple []])) (.rr [.tuple []])
theorem mY:DR cx 146 t146:=λ_ _=>by kernel_rfl
def aAT(p q r:Aa):IT:=
 .ie [p,I 2] λa=>.AH a (.Bc 172 [p,q] λb=>.rr [b]) (.iq [p,I 3] λc=>.AH c (.rr [ff]) (.op (.str .neq) [q,S aSs] λd=>.AH d (.rr [ff]) (.call 225 [r,.func (.func 226) [] []] λe=>.ih [e,I 0] λf=>.AH f (.ea 3 [r,e] λh=>.fl h 2 λ_ j=>.Bc 227 [j,S aS1] λk=>.AH k (.rr [tt]) (.ea 3 [r,e] λm=>.fl m 2 λ_ n=>.Bc 227 [n,S aSA] λo=>.rr [o])) (.rr [ff]))))
theorem mZ:Lt cx 147 aAT:=λ_ _ _=>by kernel_rfl
def t148(p q r u:Aa):IT:=
 .cells 12 r λa=>.call 14 [p,I 0] λb=>.op (.ext 0) [b] λc=>.op (.ext 1) [b] λd=>.FF q [uI a,u,c] λe=>.cells 4 e λf=>.iq [g f 0,I 0] λh=>.AH h (.call 61 [p,g f 0,c,d] λ_=>.fa p 2 λ_ j=>.call 146 [j,a4 f] λ_=>.rr [g f 0]) (.rr [g f 0])
theorem Y8:xV cx 148 t148:=λ_ _ _ _=>by kernel_rfl
def aAU(p:Aa):IT:=
 .BY p 0 λ_ _ a=>.ln [a] λb=>.loop 2 [b] (λc=>.ig [g c 0,I 0] λd=>.AH d (.BY p 0 λ_ _ e=>.ib [g c 0,I 1] λf=>.ea 3 [e,f] λh=>.fl h 0 λ_ j=>.iq [j,I 0] λk=>.AH k (.ib [g c 0,I 1] λm=>.rn [m]) (.rx 0 [g c 0])) (.rx 0 [g c 0])) (lx 0 (λn=>.rr [g n 0]) λn=>.rr [I 0])
theorem m6:GL cx 149 aAU:=λ_=>by kernel_rfl
def aAV(p q:Aa):IT:=
 .cells 3 p λa=>.cells 3 q λb=>.se [g a 1,g b 1] λc=>.AH c (.ln [g a 2] λd=>.ln [g b 2] λe=>.ie [d,e] λf=>.AH f (.FF (.func (.func 228) [] []) [g a 2,g b 2] λh=>.AH h (.FF (.func (.func 228) [] []) [g b 2,g a 2] λj=>.rr [j]) (.rr [ff])) (.rr [ff])) (.rr [ff])
theorem m7:DR cx 150 aAV:=λ_ _=>by kernel_rfl
def aAW(p q:Aa):IT:=
 .op (.Hq 3 false false true) [p,q] λa=>.op (.append 3 48) [.slnil,a] λb=>.ia [q,I 1] λc=>.op (.Hq 3 false true false) [p,c] λd=>.op (.append 3 48) [b,d] λe=>.rr [e]
theorem m8:DR cx 151 aAW:=λ_ _=>by kernel_rfl
def aAX(p q r:Aa):IT:=
 .cells 3 q λa=>.op (.Hq 3 false false true) [p,r] λb=>.op (.append 3 48) [.slnil,b] λc=>.op (.Bx 3) [a3 a] λd=>.op (.append 3 48) [c,d] λe=>.op (.Hq 3 false true false) [p,r] λf=>.op (.append 3 48) [e,f] λh=>.rr [h]
theorem m9:Lt cx 152 aAX:=λ_ _ _=>by kernel_rfl
def aAY(p:Aa):IT:=
 .cells 3 p λa=>.call 63 [g a 2] λb=>.cells 1 b λc=>.cells 3 (.agg [g a 0,g a 1,g c 0]) λd=>.rr [a3 d]
theorem nA:GL cx 153 aAY:=λ_=>by kernel_rfl
def lz(p q:Aa):IT:=
 .op (.conv .u32) [q] λa=>.ik [a,.int .u32 2047] λb=>.AH b (.op (.int .shr) [q,.int .u64 6] λc=>.op (.conv .u8) [c] λd=>.op (.int .or) [.int .u8 192,d] λe=>.op (.conv .u8) [q] λf=>.op (.int .and) [f,.int .u8 63] λh=>.op (.int .or) [.int .u8 128,h] λj=>.op (.Bx 1) [e,j] λk=>.FE 1 1 p k λm=>.rr [m]) (.il [a,.int .u32 55296] λn=>.AH n (.op (.int .shr) [q,.int .u64 12] λo=>.op (.conv .u8) [o] λs=>.op (.int .or) [.int .u8 224,s] λu=>.op (.int .shr) [q,.int .u64 6] λw=>.op (.conv .u8) [w] λy=>.op (.int .and) [y,.int .u8 63] λz=>.op (.int .or) [.int .u8 128,z] λa0=>.op (.conv .u8) [q] λa1=>.op (.int .and) [a1,.int .u8 63] λa2=>.op (.int .or) [.int .u8 128,a2] λa5=>.op (.Bx 1) [u,a0,a5] λa7=>.FE 1 1 p a7 λa8=>.rr [a8]) (.il [.int .u32 57343,a] λb0=>.AH b0 (.ik [a,.int .u32 65535] λb1=>.AH b1 (.op (.int .shr) [q,.int .u64 12] λb2=>.op (.conv .u8) [b2] λb3=>.op (.int .or) [.int .u8 224,b3] λb4=>.op (.int .shr) [q,.int .u64 6] λb5=>.op (.conv .u8) [b5] λb6=>.op (.int .and) [b6,.int .u8 63] λb7=>.op (.int .or) [.int .u8 128,b7] λb8=>.op (.conv .u8) [q] λb9=>.op (.int .and) [b9,.int .u8 63] λc0=>.op (.int .or) [.int .u8 128,c0] λc1=>.op (.Bx 1) [b4,b8,c1] λc2=>.FE 1 1 p c2 λc3=>.rr [c3]) (.ig [a,.int .u32 65535] λc4=>.AH c4 (.ik [a,.int .u32 1114111] λc5=>.AH c5 (.op (.int .shr) [q,.int .u64 18] λc6=>.op (.conv .u8) [c6] λc7=>.op (.int .or) [.int .u8 240,c7] λc8=>.op (.int .shr) [q,.int .u64 12] λc9=>.op (.conv .u8) [c9] λd0=>.op (.int .and) [d0,.int .u8 63] λd1=>.op (.int .or) [.int .u8 128,d1] λd2=>.op (.int .shr) [q,.int .u64 6] λd3=>.op (.conv .u8) [d3] λd4=>.op (.int .and) [d4,.int .u8 63] λd5=>.op (.int .or) [.int .u8 128,d5] λd6=>.op (.conv .u8) [q] λd7=>.op (.int .and) [d7,.int .u8 63] λd8=>.op (.int .or) [.int .u8 128,d8] λd9=>.op (.Bx 1) [c8,d2,d6,d9] λe0=>.FE 1 1 p e0 λe1=>.rr [e1]) (.op (.Bx 1) [.int .u8 239,.int .u8 191,.int .u8 189] λe2=>.FE 1 1 p e2 λe3=>.rr [e3])) (.op (.Bx 1) [.int .u8 239,.int .u8 191,.int .u8 189] λe4=>.FE 1 1 p e4 λe5=>.rr [e5]))) (.ig [a,.int .u32 65535] λe6=>.AH e6 (.ik [a,.int .u32 1114111] λe7=>.AH e7 (.op (.int .shr) [q,.int .u64 18] λe8=>.op (.conv .u8) [e8] λe9=>.op (.int .or) [.int .u8 240,e9] λf0=>.op (.int .shr) [q,.int .u64 12] λf1=>.op (.conv .u8) [f1] λf2=>.op (.int .and) [f2,.int .u8 63] λf3=>.op (.int .or) [.int .u8 128,f3] λf4=>.op (.int .shr) [q,.int .u64 6] λf5=>.op (.conv .u8) [f5] λf6=>.op (.int .and) [f6,.int .u8 63] λf7=>.op (.int .or) [.int .u8 128,f7] λf8=>.op (.conv .u8) [q] λf9=>.op (.int .and) [f9,.int .u8 63] λh0=>.op (.int .or) [.int .u8 128,h0] λh1=>.op (.Bx 1) [f0,f4,f8,h1] λh2=>.FE 1 1 p h2 λh3=>.rr [h3]) (.op (.Bx 1) [.int .u8 239,.int .u8 191,.int .u8 189] λh4=>.FE 1 1 p h4 λh5=>.rr [h5])) (.op (.Bx 1) [.int .u8 239,.int .u8 191,.int .u8 189] λh6=>.FE 1 1 p h6 λh7=>.rr [h7]))))
theorem Y9:DR cx 154 lz:=λ_ _=>by kernel_rfl
def aAZ(p q:Aa):IT:=
 .op (.Tg false) [p,.ptr none] λa=>.AH a (.rr [I 1]) (.ln [q] λb=>.loop 4 [I 0,I 0] (λc=>.il [g c 1,b] λd=>.AH d (.ea 1 [q,g c 1] λe=>.ld e λf=>.call 64 [p,f] λh=>.nt [h] λj=>.AH j (.rr [I 3,g c 1]) (.ia [g c 1,I 1] λk=>.rn [g c 0,k])) (.rx 0 [g c 0,g c 1])) (lx 0 (λm=>.rr [I 0]) λm=>.rr [g m 0]))
theorem nB:DR cx 155 aAZ:=λ_ _=>by kernel_rfl
def aA0(p q r:Aa):IT:=
 .cells 13 r λa=>.call 231 [p,q] λb=>.iq [b,I 0] λc=>.AH c (.rr [.tuple [I 0,b]]) (.cells 1 q λd=>.call 144 [p,.agg [g a 0,g a 1,g a 2,g d 0,g a 4,g a 5,g a 6,g a 7,g a 8,g a 9,g a 10,g a 11,g a 12]] λe=>.rr [.tuple [e,I 0]])
theorem nC:Lt cx 156 aA0:=λ_ _ _=>by kernel_rfl
def aA1(p q:Aa):IT:=
 .call 232 [p,q] λa=>.ih [a,I 0] λb=>.rr [b]
theorem nD:DR cx 157 aA1:=λ_ _=>by kernel_rfl
def aA2(p q:Aa):IT:=
 .ld q λa=>.call 45 [a,p] λb=>.op (.part 0 none) [b] λc=>.ie [c,I 4] λd=>.rr [d]
theorem nE:DR cx 158 aA2:=λ_ _=>by kernel_rfl
def Za(p q r u:Aa):IT:=
 .op (.Bx 1) [q,r] λa=>.call 155 [p,a] λb=>.iq [b,I 0] λc=>.AH c (.rr [b]) (.Df 200004 (.iq [u,I 0] λd=>.AH d (.call 64 [p,u] λe=>.nt [e] λf=>.rn [f]) (.rn [ff])) (nx (λh=>.AH (g h 0) (.rr [I 3]) (.call 145 [p,q] λj=>.call 145 [p,r] λk=>.Df 200007 (.fa j 0 λ_ m=>.fl m 0 λ_ n=>.iq [n,I 1] λo=>.AH o (.fa j 0 λ_ s=>.fl s 0 λ_ w=>.iq [w,I 2] λy=>.AH y (.fa j 0 λ_ z=>.fl z 0 λ_ a0=>.iq [a0,I 4] λa1=>.rn [a1]) (.rn [ff])) (.rn [ff])) (λx a2=>match x with| .normal=>.AH (g a2 0) (.rr [I 4]) (.fa k 0 λ_ a5=>.fl a5 0 λ_ a7=>.ie [a7,I 1] λa8=>.AH a8 (.rr [I 4]) (.fa k 0 λ_ b0=>.fl b0 0 λ_ b1=>.ie [b1,I 2] λb2=>.AH b2 (.rr [I 4]) (.call 233 [p,r,q] λb3=>.AH b3 (.rr [I 4]) (.Df 200012 (.iq [u,I 0] λb4=>.AH b4 (.ie [u,r] λb5=>.AH b5 (.rn [tt]) (.call 145 [p,u] λb6=>.fa b6 0 λ_ b7=>.fl b7 1 λ_ b8=>.iq [b8,q] λb9=>.rn [b9])) (.rn [ff])) (λx c0=>match x with| .normal=>.AH (g c0 0) (.rr [I 5]) (.call 234 [p,r] λ_=>.fa j 0 λ_ c1=>.fl c1 2 λ_ c2=>.ln [c2] λc3=>.iq [u,I 0] λc4=>.Df 100103 (.AH c4 (.fa j 0 λ_ c5=>.fl c5 2 λ_ c7=>.call 57 [c7,u] λc8=>.rn [c8]) (.rn [c3])) (nx (λc9=>.fa j 0 λ_ d0=>.fl d0 2 λ_ d1=>.op (.Bx 1) [r] λd2=>.mem .qH [d1,g c9 0,d2] λd3=>.fa j 0 λ_ d4=>.op (.EC 2) [d4] λd5=>.store 1 d5 d3 (.fa k 0 λ_ d6=>.op (.EC 1) [d6] λd7=>.store 1 d7 q (.rr [I 0]))) λc9=>.rr [I 0]))| .exit i=>if i=0 then .call 234 [p,r] λ_=>.fa j 0 λ_ d8=>.fl d8 2 λ_ d9=>.ln [d9] λe0=>.iq [u,I 0] λe1=>.Df 100103 (.AH e1 (.fa j 0 λ_ e2=>.fl e2 2 λ_ e3=>.call 57 [e3,u] λe4=>.rn [e4]) (.rn [e0])) (nx (λe5=>.fa j 0 λ_ e6=>.fl e6 2 λ_ e7=>.op (.Bx 1) [r] λe8=>.mem .qH [e7,g e5 0,e8] λe9=>.fa j 0 λ_ f0=>.op (.EC 2) [f0] λf1=>.store 1 f1 e9 (.fa k 0 λ_ f2=>.op (.EC 1) [f2] λf3=>.store 1 f3 q (.rr [I 0]))) λe5=>.rr [I 0]) else .fail| .ret=>.rr [I 0])))))| .exit i=>if i=0 then .call 234 [p,r] λ_=>.fa j 0 λ_ f4=>.fl f4 2 λ_ f5=>.ln [f5] λf6=>.iq [u,I 0] λf7=>.Df 100103 (.AH f7 (.fa j 0 λ_ f8=>.fl f8 2 λ_ f9=>.call 57 [f9,u] λh0=>.rn [h0]) (.rn [f6])) (nx (λh1=>.fa j 0 λ_ h2=>.fl h2 2 λ_ h3=>.op (.Bx 1) [r] λh4=>.mem .qH [h3,g h1 0,h4] λh5=>.fa j 0 λ_ h6=>.op (.EC 2) [h6] λh7=>.store 1 h7 h5 (.fa k 0 λ_ h8=>.op (.EC 1) [h8] λh9=>.store 1 h9 q (.rr [I 0]))) λh1=>.rr [I 0]) else .fail| .ret=>.rr [I 0]))) λh=>.rr [I 0]))
theorem LJ:xV cx 159 Za:=λ_ _ _ _=>by kernel_rfl
def t164(p q:Aa):IT:=
 .cells 13 q λa=>.BY p 0 λ_ _ b=>.op (.Bx 13) [WM a] λc=>.FE 13 168 b c λd=>.fa p 0 λ_ e=>.store 1 e d (.BY p 1 λ_ _ f=>.op (.Bx 1) [I 0] λh=>.FE 1 8 f h λj=>.fa p 1 λ_ k=>.store 1 k j (.BY p 0 λ_ _ m=>.ln [m] λn=>.ib [n,I 1] λo=>.rr [o]))
theorem l_:DR cx 164 t164:=λ_ _=>by kernel_rfl
def aA3(p q r u w:Aa):IT:=
 .call 167 [p,q] λa=>.iq [a,I 0] λb=>.AH b (.rr [.tuple [I 0,a]]) (.Bc 186 [r] λc=>.nt [c] λd=>.AH d (.rr [.tuple [I 0,I 2]]) (.call 243 [w] λe=>.nt [e] λf=>.AH f (.rr [.tuple [I 0,I 2]]) (.call 244 [w] λh=>.op (.Bs [I 0,I 0,.slnil,I 0,I 0,S [],.slnil,S [],S [],S [],ff,I 0,I 0] [(0,1),(3,1),(4,1),(5,1),(6,1)]) [I 4,q,r,u,h] λj=>.call 164 [p,j] λk=>.BY p 0 λ_ _ m=>.ea 13 [m,k] λn=>.load (some 13) n λo=>.call 245 [o] λs=>.AH s (.call 246 [p,q] λy=>.op (.Bs [I 0,I 0,.slnil,I 0,I 0,S [],.slnil,S [],S [],S [],ff,I 0,I 0] [(0,1),(3,1),(12,1)]) [I 2,y,k] λz=>.call 164 [p,z] λa0=>.BY p 0 λ_ _ a1=>.ea 13 [a1,k] λa2=>.op (.EC 11) [a2] λa5=>.store 1 a5 a0 (.rr [.tuple [k,I 0]])) (.rr [.tuple [k,I 0]]))))
theorem nF:Tq5 cx 165 aA3:=λ_ _ _ _ _=>by kernel_rfl
def aE2(p q r:Aa):IT:=
 .ie [p,I 2] λa=>.AH a (.Bc 140 [S aSu,q] λb=>.rr [b]) (.iq [p,I 3] λc=>.AH c (.rr [ff]) (.op (.str .neq) [q,S aSs] λd=>.AH d (.rr [ff]) (.loop 6 [ff,I 0] (λe=>.ln [r] λf=>.il [g e 1,f] λh=>.AH h (.ea 3 [r,g e 1] λj=>.fl j 0 λ_ k=>.ie [k,I 0] λm=>.AH m (.ea 3 [r,g e 1] λn=>.fl n 1 λ_ o=>.se [o,S aS4] λs=>.AH s (.ea 3 [r,g e 1] λu=>.fl u 2 λ_ w=>.Bc 247 [w] λy=>.se [y,S aS1] λz=>.AH z (.rr [tt,g e 1]) (.se [y,S aSA] λa0=>.rr [a0,g e 1])) (.ia [g e 1,I 1] λa1=>.rn [g e 0,a1])) (.ia [g e 1,I 1] λa2=>.rn [g e 0,a2])) (.rx 0 [g e 0,g e 1])) (lx 0 (λa5=>.rr [ff]) λa5=>.rr [g a5 0]))))
theorem ma:Lt cx 166 aE2:=λ_ _ _=>by kernel_rfl
def aE3(p q:Aa):IT:=
 .call 220 [p,q] λa=>.nt [a] λb=>.AH b (.rr [I 3]) (.BY p 0 λ_ _ c=>.ea 13 [c,q] λd=>.fl d 0 λ_ e=>.iq [e,I 1] λf=>.AH f (.rr [I 9]) (.rr [I 0]))
theorem mb:DR cx 167 aE3:=λ_ _=>by kernel_rfl
def aE4(p q r:Aa):IT:=
 .op (.Bs [I 0,I 0,.slnil,I 0,I 0,S [],.slnil,S [],S [],S [],ff,I 0,I 0] [(0,1),(7,1)]) [I 6,r] λa=>.call 156 [p,q,a] λb=>.op (.ext 0) [b] λc=>.op (.ext 1) [b] λd=>.rr [.tuple [c,d]]
theorem mc:Lt cx 168 aE4:=λ_ _ _=>by kernel_rfl
def aE5(p q r:Aa):IT:=
 .cells 1 r λa=>.call 210 [p,q,.func (.func 248) [] [.CA [g a 0]]] λb=>.rr [b]
theorem me:Lt cx 169 aE5:=λ_ _ _=>by kernel_rfl
def aA4(p q:Aa):IT:=
 .cells 1 q λa=>.call 178 [p,.func (.func 249) [] [.CA [g a 0]],.func (.func 179) [] []] λb=>.rr [b]
theorem nG:DR cx 170 aA4:=λ_ _=>by kernel_rfl
def zY(p:Aa):IT:=
 .op (.GV false .sl) [p,.slnil] λa=>.AH a (.rr [.slnil]) (.op (.Bx 3) [] λb=>.HC 3 48 b p λc=>.rr [c])
theorem T7:GL cx 171 zY:=λ_=>by kernel_rfl
def aA5(p q:Aa):IT:=
 .ie [p,I 3] λa=>.AH a (.se [q,S aSs] λb=>.AH b (.rr [tt]) (.Bc 251 [p,q] λc=>.rr [c])) (.ie [p,I 2] λd=>.AH d (.se [q,S aTa] λe=>.AH e (.rr [tt]) (.se [q,S aSy] λf=>.AH f (.rr [tt]) (.se [q,S aSW] λh=>.rr [h]))) (.ie [p,I 1] λj=>.AH j (swv q (.rr [tt]) (.rr [ff]) Mq) (.rr [ff])))
theorem nH:DR cx 172 aA5:=λ_ _=>by kernel_rfl
def aA6(p q r:Aa):IT:=
 .cells 4 q λa=>.call 252 [] λb=>.ln [b] λc=>.loop 2 [I 0,ff,I 0] (λd=>.il [g d 2,c] λe=>.AH e (.ea 2 [b,g d 2] λf=>.load (some 2) f λh=>.cells 2 h λj=>.op (.Bx 1) [g j 0] λk=>.call 36 [a4 a,k] λm=>.AH m (.rr [g j 1,tt,g d 2]) (.ia [g d 2,I 1] λn=>.rn [g d 0,g d 1,n])) (.rx 0 [g d 0,g d 1,g d 2])) (lx 0 (λo=>.op (.Bx 1) [S aSZ] λs=>.call 36 [a4 a,s] λu=>.AH u (.call 253 [p,r] λw=>.rr [.tuple [w,tt]]) (.Df 200009 (.op (.Bx 1) [S [116,100],S [116,104]] λy=>.call 36 [a4 a,y] λz=>.AH z (.ig [r,I 0] λa0=>.rn [a0]) (.rn [ff])) (λx a1=>match x with| .normal=>.AH (g a1 0) (.rr [.tuple [I 15,tt]]) (.op (.Bx 1) [S aSo] λa2=>.call 36 [a4 a,a2] λa5=>.AH a5 (.BY p 6 λ_ _ a7=>.ln [a7] λa8=>.ig [a8,I 0] λb0=>.AH b0 (.BY p 6 λ_ _ b1=>.ib [a8,I 1] λb2=>.ea 1 [b1,b2] λb3=>.ld b3 λb4=>.rr [.tuple [b4,tt]]) (.rr [.tuple [I 7,tt]])) (.Df 200016 (.op (.Bx 1) [S aS7] λb5=>.call 36 [a4 a,b5] λb6=>.AH b6 (.ig [r,I 0] λb7=>.rn [b7]) (.rn [ff])) (λx b8=>match x with| .normal=>.AH (g b8 0) (.rr [.tuple [I 4,tt]]) (.op (.Bx 1) [S aSx] λb9=>.call 36 [a4 a,b9] λc1=>.AH c1 (.BY p 7 λ_ _ c2=>.ie [c2,I 0] λc4=>.AH c4 (.rr [.tuple [I 3,tt]]) (.rr [.tuple [I 6,tt]])) (.ie [r,I 0] λc5=>.rr [.tuple [I 7,c5]]))| .exit i=>if i=2 then .ie [r,I 0] λc6=>.rr [.tuple [I 7,c6]] else .fail| .ret=>.rr [.tuple [g o 0,g o 1]])))| .exit i=>if i=2 then .ie [r,I 0] λc8=>.rr [.tuple [I 7,c8]] else .fail| .ret=>.rr [.tuple [g o 0,g o 1]]))) λo=>.rr [.tuple [g o 0,g o 1]])
theorem nI:Lt cx 173 aA6:=λ_ _ _=>by kernel_rfl
def mf(p q:Aa):IT:=
 .call 225 [p,q] λa=>.ih [a,I 0] λb=>.rr [b]
theorem Zb:DR cx 174 mf:=λ_ _=>by kernel_rfl
def aE6(p q:Aa):IT:=
 .cells 3 p λa=>.ie [g a 0,I 0] λb=>.AH b (.fl q 1 λ_ c=>.se [g a 1,c] λd=>.rr [d]) (.rr [ff])
theorem mg:DR cx 175 aE6:=λ_ _=>by kernel_rfl
def aE7(p q r:Aa):IT:=
 .op (.Bx 1) [q] λa=>.call 155 [p,a] λb=>.iq [b,I 0] λc=>.AH c (.rr [b]) (.call 145 [p,q] λd=>.fa d 0 λ_ e=>.fl e 0 λ_ f=>.iq [f,I 4] λh=>.AH h (.rr [I 9]) (.call 254 [r] λj=>.op (.ext 0) [j] λk=>.op (.ext 1) [j] λm=>.nt [m] λn=>.AH n (.rr [I 2]) (.fa d 0 λ_ o=>.op (.EC 6) [o] λs=>.store 1 s k (.rr [I 0]))))
theorem mh:Lt cx 176 aE7:=λ_ _ _=>by kernel_rfl
def aE8(p:Aa):IT:=
 .call 178 [p,.func (.func 255) [] [],.func (.func 179) [] []] λa=>.rr [a]
theorem mi:GL cx 177 aE8:=λ_=>by kernel_rfl
def aA7(p q r:Aa):IT:=
 .loop 2 [I 0] (λa=>.call 44 [p] λb=>.ig [b,I 1] λc=>.AH c (.call 49 [p] λd=>.FF q [d] λe=>.nt [e] λf=>.AH f (.ia [g a 0,I 1] λh=>.call 38 [p] λj=>.FF r [j] λk=>.AH k (.rx 0 [h]) (.rn [h])) (.rx 0 [g a 0])) (.rx 0 [g a 0])) (lx 0 (λm=>.rr [g m 0]) λm=>.rr [I 0])
theorem nJ:Lt cx 178 aA7:=λ_ _ _=>by kernel_rfl
def aA8(p:Aa):IT:=
 .cells 4 p λ_=>.rr [ff]
theorem nK:GL cx 179 aA8:=λ_=>by kernel_rfl
def aE9(p q:Aa):IT:=
 .cells 4 p λa=>.ld q λb=>.call 181 [a4 a,b] λc=>.rr [c]
theorem mj:DR cx 180 aE9:=λ_ _=>by kernel_rfl
def aA9(p q:Aa):IT:=
 .cells 4 p λa=>.ie [g a 1,I 1] λb=>.AH b (.call 109 [q,g a 2] λc=>.rr [c]) (.rr [ff])
theorem nL:DR cx 181 aA9:=λ_ _=>by kernel_rfl
def aBa(p q:Aa):IT:=
 .O7 λa=>.op (.Bs [I 0,S [],S []] [(0,1),(1,1)]) [I 4,S aS8] λb=>.J0 a (S aSE) b (.op (.Bs [I 0,S [],S []] [(0,1),(1,1)]) [I 4,S aS6] λc=>.J0 a (S aSD) c (.op (.Bs [I 0,S [],S []] [(0,1),(1,1)]) [I 4,S aTe] λd=>.J0 a (S aSP) d (.op (.Bs [I 0,S [],S []] [(0,1),(1,1)]) [I 4,S aTf] λe=>.J0 a (S aSQ) e (.op (.Bs [I 0,S [],S []] [(0,1),(1,1)]) [I 4,S aTg] λf=>.J0 a (S aSR) f (.op (.Bs [I 0,S [],S []] [(0,1),(1,1)]) [I 4,S aSW] λh=>.J0 a (S aSI) h (.op (.Bs [I 0,S [],S []] [(0,1),(1,1)]) [I 4,S aTh] λj=>.J0 a (S aSS) j (.op (.Bs [I 0,S [],S []] [(0,1),(1,1)]) [I 5,S [108,97,110,103]] λk=>.J0 a (S aSU) k (.op (.Bs [I 0,S [],S []] [(0,1),(1,1)]) [I 5,S aTd] λm=>.J0 a (S aSJ) m (.op (.Bs [I 0,S [],S []] [(0,1),(1,1)]) [I 6,S aSL] λn=>.J0 a (S aSL) n (.op (.Bs [I 0,S [],S []] [(0,1),(1,1)]) [I 6,S aS2] λo=>.J0 a (S aSB) o (.ln [q] λs=>.loop 4 [.slnil,I 0] (λu=>.il [g u 1,s] λw=>.AH w (.ea 3 [q,g u 1] λy=>.load (some 3) y λz=>.cells 3 z λa0=>.op (.Bs [I 0,S [],S []] [(1,1),(2,1)]) [g a0 1,g a0 2] λa1=>.cells 3 a1 λa2=>.ie [p,I 2] λa5=>.Df 100036 (.AH a5 (.Bc 257 [g a0 1] λa7=>.cells 1 a7 λa8=>.rn [.agg [g a2 0,g a8 0,g a2 2]]) (.Df 200009 (.ie [p,I 3] λb0=>.AH b0 (.se [g a0 1,S aST] λb1=>.rn [b1]) (.rn [ff])) (λx b2=>match x with| .normal=>.Df 100043 (.AH (g b2 0) (.cells 1 (S aSV) λb3=>.rn [.agg [g a2 0,g b3 0,g a2 2]]) (.rn [a3 a2])) (λx b4=>.cells 3 (g b4 0) λb5=>.ret x [a3 b5])| .exit i=>.ret (.exit i) [a3 a2]| .ret=>.rr [a3 a2]))) (λx b6=>.cells 3 (g b6 0) λb7=>match x with| .normal=>.Mb (.agg [I 0,S [],S []]) true a (g b7 1) λb8=>.op (.ext 0) [b8] λb9=>.op (.ext 1) [b8] λc0=>.cells 3 b9 λc1=>.Df 200012 (.AH c0 (.ie [p,I 2] λc2=>.AH c2 (.rn [tt]) (.ie [p,I 3] λc3=>.rn [c3])) (.rn [ff])) (λx c4=>match x with| .normal=>.Df 100067 (.AH (g c4 0) (.cells 1 (g c1 0) λc5=>.cells 1 (g c1 1) λc6=>.rn [.agg [g c5 0,g c6 0,g b7 2]]) (.rn [a3 b7])) (λx c7=>.cells 3 (g c7 0) λc8=>match x with| .normal=>.op (.Bx 3) [a3 c8] λc9=>.op (.append 3 40) [g u 0,c9] λd0=>.ia [g u 1,I 1] λd1=>.rn [d0,d1]| .exit i=>if i=1 then .ia [g u 1,I 1] λd2=>.rn [g u 0,d2] else .ret (.exit i) [g u 0,g u 1]| .ret=>.rr [g u 0,g u 1])| .exit i=>if i=1 then .ia [g u 1,I 1] λd3=>.rn [g u 0,d3] else .ret (.exit i) [g u 0,g u 1]| .ret=>.rr [g u 0,g u 1])| .exit i=>if i=2 then .Mb (.agg [I 0,S [],S []]) true a (g b7 1) λd4=>.op (.ext 0) [d4] λd5=>.op (.ext 1) [d4] λd6=>.cells 3 d5 λd7=>.Df 200012 (.AH d6 (.ie [p,I 2] λd8=>.AH d8 (.rn [tt]) (.ie [p,I 3] λd9=>.rn [d9])) (.rn [ff])) (λx e0=>match x with| .normal=>.Df 100067 (.AH (g e0 0) (.cells 1 (g d7 0) λe1=>.cells 1 (g d7 1) λe2=>.rn [.agg [g e1 0,g e2 0,g b7 2]]) (.rn [a3 b7])) (λx e3=>.cells 3 (g e3 0) λe4=>match x with| .normal=>.op (.Bx 3) [a3 e4] λe5=>.op (.append 3 40) [g u 0,e5] λe6=>.ia [g u 1,I 1] λe7=>.rn [e6,e7]| .exit i=>if i=1 then .ia [g u 1,I 1] λe8=>.rn [g u 0,e8] else .ret (.exit i) [g u 0,g u 1]| .ret=>.rr [g u 0,g u 1])| .exit i=>if i=1 then .ia [g u 1,I 1] λe9=>.rn [g u 0,e9] else .ret (.exit i) [g u 0,g u 1]| .ret=>.rr [g u 0,g u 1]) else if i=1 then .ia [g u 1,I 1] λf0=>.rn [g u 0,f0] else .ret (.exit i) [g u 0,g u 1]| .ret=>.rr [g u 0,g u 1])) (.rx 0 [g u 0,g u 1])) (lx 0 (λf1=>.rr [g f1 0]) λf1=>.rr [.slnil]))))))))))))
theorem nM:DR cx 182 aBa:=λ_ _=>by kernel_rfl
def aBb(p:Aa):IT:=
 .Bc 258 [p,S aSm] λa=>.rr [a]
theorem nN:GL cx 183 aBb:=λ_=>by kernel_rfl
def ml(p q r u w:Aa):IT:=
 .call 231 [p,q] λa=>.iq [a,I 0] λb=>.AH b (.rr [.tuple [I 0,a]]) (.call 254 [w] λc=>.op (.ext 0) [c] λd=>.op (.ext 1) [c] λe=>.nt [e] λf=>.AH f (.rr [.tuple [I 0,I 2]]) (.op (.Bx 1) [r] λh=>.call 259 [h] λj=>.nt [j] λk=>.AH k (.rr [.tuple [I 0,I 2]]) (.op (.Bs [I 0,I 0,.slnil,I 0,I 0,S [],.slnil,S [],S [],S [],ff,I 0,I 0] [(0,1),(3,1),(4,1),(5,1),(6,1)]) [I 4,q,r,u,d] λm=>.call 144 [p,m] λn=>.call 145 [p,n] λo=>.call 260 [o] λs=>.AH s (.call 261 [p,q] λy=>.op (.Bs [I 0,I 0,.slnil,I 0,I 0,S [],.slnil,S [],S [],S [],ff,I 0,I 0] [(0,1),(12,1),(3,1)]) [I 2,n,y] λz=>.call 144 [p,z] λa0=>.call 145 [p,n] λa1=>.fa a1 0 λ_ a2=>.op (.EC 11) [a2] λa5=>.store 1 a5 a0 (.rr [.tuple [n,I 0]])) (.rr [.tuple [n,I 0]]))))
theorem Zc:Tq5 cx 184 ml:=λ_ _ _ _ _=>by kernel_rfl
def mm(p q:Aa):IT:=
 .call 45 [p,q] λa=>.cells 13 a λb=>.iq [g b 11,I 0] λc=>.AH c (.call 45 [p,g b 11] λd=>.cells 13 d λe=>.iq [g e 3,I 0] λf=>.AH f (.rr [g e 3]) (.BY p 1 λ_ _ h=>.rr [h])) (.iq [g b 3,I 0] λj=>.AH j (.rr [g b 3]) (.BY p 1 λ_ _ k=>.rr [k]))
theorem Zd:DR cx 185 mm:=λ_ _=>by kernel_rfl
def aFa(p:Aa):IT:=
 .ih [p,I 0] λa=>.AH a (.ik [p,I 7] λb=>.rr [b]) (.rr [ff])
theorem mn:GL cx 186 aFa:=λ_=>by kernel_rfl
def aFb(p q:Aa):IT:=
 .cells 3 q λa=>.call 200 [p] λb=>.loop 3 [I (-1),I 0,b] (λc=>.ln [p] λd=>.il [g c 2,d] λe=>.AH e (.ea 3 [p,g c 2] λf=>.load (some 3) f λh=>.call 262 [h,a3 a] λj=>.AH j (.ia [g c 1,I 1] λk=>.il [g c 0,I 0] λm=>.AH m (.ia [g c 2,I 1] λn=>.rn [g c 2,k,n]) (.ia [g c 2,I 1] λo=>.rn [g c 0,k,o])) (.ia [g c 2,I 1] λs=>.rn [g c 0,g c 1,s])) (.rx 0 [g c 0,g c 1,g c 2])) (lx 0 (λu=>.iq [g a 0,I 0] λw=>.AH w (.ih [g u 1,I 3] λy=>.AH y (.call 218 [p,g u 0] λz=>.ln [z] λa0=>.call 98 [z,a3 a,a0] λa1=>.rr [a1]) (.ln [p] λa2=>.call 98 [p,a3 a,a2] λa5=>.rr [a5])) (.ln [p] λa7=>.call 98 [p,a3 a,a7] λa8=>.rr [a8])) λu=>.rr [.slnil])
theorem mo:DR cx 187 aFb:=λ_ _=>by kernel_rfl
def aFc(p:Aa):IT:=
 .ih [p,.int .i32 0] λa=>.AH a (.ik [p,.int .i32 55295] λb=>.AH b (.rr [tt]) (.ih [p,.int .i32 57344] λc=>.AH c (.ik [p,.int .i32 1114111] λd=>.rr [d]) (.rr [ff]))) (.ih [p,.int .i32 57344] λe=>.AH e (.ik [p,.int .i32 1114111] λf=>.rr [f]) (.rr [ff]))
theorem mq:GL cx 188 aFc:=λ_=>by kernel_rfl
def aFd(p:Aa):IT:=
 .op (.conv .i64) [p] λa=>.il [a,I 128] λb=>.AH b (.op (.conv .u8) [a] λc=>.op (.Bx 1) [c] λd=>.rr [d]) (.il [a,I 2048] λe=>.AH e (.op (.int .quo) [a,I 64] λf=>.ia [I 192,f] λh=>.op (.conv .u8) [h] λj=>.op (.int .rem) [a,I 64] λk=>.ia [I 128,k] λm=>.op (.conv .u8) [m] λn=>.op (.Bx 1) [j,n] λo=>.rr [o]) (.il [a,I 65536] λs=>.AH s (.op (.int .quo) [a,I 4096] λu=>.ia [I 224,u] λw=>.op (.conv .u8) [w] λy=>.op (.int .quo) [a,I 64] λz=>.op (.int .rem) [z,I 64] λa0=>.ia [I 128,a0] λa1=>.op (.conv .u8) [a1] λa2=>.op (.int .rem) [a,I 64] λa5=>.ia [I 128,a5] λa7=>.op (.conv .u8) [a7] λa8=>.op (.Bx 1) [y,a2,a8] λb0=>.rr [b0]) (.op (.int .quo) [a,I 262144] λb1=>.ia [I 240,b1] λb2=>.op (.conv .u8) [b2] λb3=>.op (.int .quo) [a,I 4096] λb4=>.op (.int .rem) [b4,I 64] λb5=>.ia [I 128,b5] λb6=>.op (.conv .u8) [b6] λb7=>.op (.int .quo) [a,I 64] λb8=>.op (.int .rem) [b8,I 64] λb9=>.ia [I 128,b9] λc0=>.op (.conv .u8) [c0] λc1=>.op (.int .rem) [a,I 64] λc2=>.ia [I 128,c2] λc3=>.op (.conv .u8) [c3] λc4=>.op (.Bx 1) [b3,b7,c1,c4] λc5=>.rr [c5])))
theorem mr:GL cx 189 aFd:=λ_=>by kernel_rfl
def aFe(p q:Aa):IT:=
 .loop 2 [I 0,I 0] (λa=>.ln [p] λb=>.il [g a 1,b] λc=>.AH c (.ea 1 [p,g a 1] λd=>.ld d λe=>.ie [e,q] λf=>.AH f (.rr [g a 1,g a 1]) (.ia [g a 1,I 1] λh=>.rn [g a 0,h])) (.rx 0 [g a 0,g a 1])) (lx 0 (λj=>.rr [I (-1)]) λj=>.rr [g j 0])
theorem mv:DR cx 190 aFe:=λ_ _=>by kernel_rfl
def aFf(p q r:Aa):IT:=
 .cells 13 r λa=>.call 167 [p,q] λb=>.iq [b,I 0] λc=>.AH c (.rr [.tuple [I 0,b]]) (.cells 1 q λd=>.call 164 [p,.agg [g a 0,g a 1,g a 2,g d 0,g a 4,g a 5,g a 6,g a 7,g a 8,g a 9,g a 10,g a 11,g a 12]] λe=>.rr [.tuple [e,I 0]])
theorem mw:Lt cx 191 aFf:=λ_ _ _=>by kernel_rfl
def aFg(p q:Aa):IT:=
 .BY p 0 λ_ _ a=>.call 220 [a,q] λb=>.AH b (.BY p 0 λ_ _ c=>.BY c 0 λ_ _ d=>.ea 13 [d,q] λe=>.fl e 3 λ_ f=>.rr [f]) (.BY p 1 λ_ _ h=>.rr [h])
theorem my:DR cx 192 aFg:=λ_ _=>by kernel_rfl
def aFh(p q r:Aa):IT:=
 .loop 2 [ff,I 0] (λa=>.ln [p] λb=>.il [g a 1,b] λc=>.AH c (.ea 4 [p,g a 1] λd=>.load (some 4) d λe=>.call 40 [e,r] λf=>.AH f (.call 219 [p,g a 1,q] λh=>.AH h (.rr [tt,g a 1]) (.ia [g a 1,I 1] λj=>.rn [g a 0,j])) (.ia [g a 1,I 1] λk=>.rn [g a 0,k])) (.rx 0 [g a 0,g a 1])) (lx 0 (λm=>.rr [ff]) λm=>.rr [g m 0])
theorem mz:Lt cx 193 aFh:=λ_ _ _=>by kernel_rfl
def aFi(p q r:Aa):IT:=
 .ln [p] λa=>.loop 2 [a] (λb=>.ig [g b 0,I 1] λc=>.AH c (.ib [g b 0,I 1] λd=>.ea 4 [p,d] λe=>.load (some 4) e λf=>.cells 4 f λh=>.iq [g h 1,I 1] λj=>.AH j (.rx 0 [g b 0]) (.nt [r] λk=>.AH k (.Bc 263 [g h 2] λm=>.nt [m] λn=>.AH n (.rx 0 [g b 0]) (.se [g h 2,q] λo=>.AH o (.rx 0 [g b 0]) (.AH r (.Bc 264 [g h 2] λs=>.nt [s] λu=>.AH u (.rx 0 [g b 0]) (.ib [g b 0,I 1] λw=>.rn [w])) (.ib [g b 0,I 1] λy=>.rn [y])))) (.AH r (.Bc 264 [g h 2] λz=>.nt [z] λa0=>.AH a0 (.rx 0 [g b 0]) (.ib [g b 0,I 1] λa1=>.rn [a1])) (.ib [g b 0,I 1] λa2=>.rn [a2])))) (.rx 0 [g b 0])) (lx 0 (λa5=>.call 123 [p,g a5 0] λa7=>.KR a7 λa8=>.rr [a8]) λa5=>.KR .slnil λb0=>.rr [b0])
theorem m_:Lt cx 194 aFi:=λ_ _ _=>by kernel_rfl
def aFj(p q:Aa):IT:=
 .cells 3 q λa=>.ie [g a 0,I 0] λb=>.AH b (.rr [tt]) (.BY p 2 λ_ _ c=>.call 125 [c,g a 0] λd=>.ih [d,I 0] λe=>.rr [e])
theorem nc:DR cx 195 aFj:=λ_ _=>by kernel_rfl
def aFk(p q:Aa):IT:=
 .ie [p,I 1] λa=>.AH a (.Bc 140 [S aSl,q] λb=>.rr [b]) (.ie [p,I 3] λc=>.AH c (.Bc 140 [S aSF,q] λd=>.AH d (.rr [tt]) (.se [q,S aSs] λe=>.rr [e])) (.ie [p,I 2] λf=>.AH f (.Bc 140 [S aSu,q] λh=>.rr [h]) (.rr [ff])))
theorem ng:DR cx 196 aFk:=λ_ _=>by kernel_rfl
def aBc(p q r u:Aa):IT:=
 .cells 4 q λa=>.ie [g a 1,I 1] λb=>.AH b (.se [g a 2,S aSZ] λc=>.AH c (.call 265 [p,r] λd=>.rr [.tuple [d,tt]]) (.se [g a 2,S [116,100]] λe=>.AH e (.nt [u] λf=>.AH f (.rr [.tuple [I 15,tt]]) (.rr [.tuple [I 7,u]])) (.se [g a 2,S [116,104]] λh=>.AH h (.nt [u] λj=>.AH j (.rr [.tuple [I 15,tt]]) (.rr [.tuple [I 7,u]])) (.se [g a 2,S [116,114]] λk=>.AH k (.rr [.tuple [I 14,tt]]) (.se [g a 2,S aSN] λm=>.AH m (.rr [.tuple [I 13,tt]]) (.se [g a 2,S aSO] λn=>.AH n (.rr [.tuple [I 13,tt]]) (.se [g a 2,S aSK] λo=>.AH o (.rr [.tuple [I 13,tt]]) (.se [g a 2,S aSz] λs=>.AH s (.rr [.tuple [I 11,tt]]) (.se [g a 2,S aSG] λw=>.AH w (.rr [.tuple [I 12,tt]]) (.se [g a 2,S aSv] λy=>.AH y (.rr [.tuple [I 9,tt]]) (.se [g a 2,S aSo] λz=>.AH z (.BY p 6 λ_ _ a0=>.ln [a0] λa1=>.ig [a1,I 0] λa2=>.AH a2 (.BY p 6 λ_ _ a5=>.BY p 6 λ_ _ a7=>.ln [a7] λa8=>.ib [a8,I 1] λb0=>.ea 1 [a5,b0] λb1=>.ld b1 λb2=>.rr [.tuple [b2,tt]]) (.rr [.tuple [I 7,tt]])) (.se [g a 2,S aS7] λb3=>.AH b3 (.nt [u] λb4=>.AH b4 (.rr [.tuple [I 4,tt]]) (.rr [.tuple [I 7,u]])) (.se [g a 2,S aS9] λb5=>.AH b5 (.rr [.tuple [I 7,tt]]) (.se [g a 2,S aSX] λb6=>.AH b6 (.rr [.tuple [I 20,tt]]) (.se [g a 2,S aSx] λb7=>.AH b7 (.BY p 7 λ_ _ b8=>.ie [b8,I 0] λb9=>.AH b9 (.rr [.tuple [I 3,tt]]) (.rr [.tuple [I 6,tt]])) (.rr [.tuple [I 7,u]])))))))))))))))) (.rr [.tuple [I 7,u]])
theorem nO:xV cx 197 aBc:=λ_ _ _ _=>by kernel_rfl
def aFl(p q r:Aa):IT:=
 .call 220 [p,q] λa=>.nt [a] λb=>.AH b (.rr [I 3]) (.BY p 0 λ_ _ c=>.ea 13 [c,q] λd=>.fl d 0 λ_ e=>.iq [e,I 4] λf=>.AH f (.rr [I 9]) (.call 243 [r] λh=>.nt [h] λj=>.AH j (.rr [I 2]) (.BY p 0 λ_ k m=>.call 244 [r] λn=>.ld k λo=>.same m o (.ea 13 [m,q] λs=>.op (.EC 6) [s] λu=>.store 1 u n (.rr [I 0])))))
theorem nh:Lt cx 198 aFl:=λ_ _ _=>by kernel_rfl
def aFm(p:Aa):IT:=
 .cells 3 p λa=>.op (.append 3 40) [.slnil,g a 2] λb=>.cells 1 b λc=>.cells 3 (.agg [g a 0,g a 1,g c 0]) λd=>.rr [a3 d]
theorem ni:GL cx 199 aFm:=λ_=>by kernel_rfl
def aFn(p:Aa):IT:=
 .loop 3 [I 0,I 0] (λa=>.ln [p] λb=>.il [g a 1,b] λc=>.AH c (.ea 3 [p,g a 1] λd=>.fl d 0 λ_ e=>.ie [e,I 0] λf=>.AH f (.ia [g a 1,I 1] λh=>.ia [g a 1,I 1] λj=>.rn [h,j]) (.ia [g a 1,I 1] λk=>.rn [g a 0,k])) (.rx 0 [g a 0,g a 1])) (lx 0 (λm=>.rr [g m 0]) λm=>.rr [I 0])
theorem nj:GL cx 200 aFn:=λ_=>by kernel_rfl
def aFo(p q:Aa):IT:=
 .loop 3 [.slnil,I 0] (λa=>.ln [q] λb=>.il [g a 1,b] λc=>.AH c (.ea 3 [q,g a 1] λd=>.fl d 1 λ_ e=>.ea 3 [q,g a 1] λf=>.fl f 2 λ_ h=>.op (.Bs [I 0,S [],S []] [(1,1),(2,1)]) [e,h] λj=>.cells 3 j λk=>.Df 200006 (.ie [p,I 3] λm=>.AH m (.se [g k 1,S aST] λn=>.rn [n]) (.rn [ff])) (λx o=>match x with| .normal=>.Df 100031 (.AH (g o 0) (.cells 1 (S aSV) λs=>.rn [.agg [g k 0,g s 0,g k 2]]) (.rn [a3 k])) (λx u=>.cells 3 (g u 0) λw=>match x with| .normal=>.ie [p,I 2] λy=>.Df 100034 (.AH y (.Bc 266 [S aSk,g w 1] λz=>.cells 1 z λa0=>.rn [.agg [g w 0,g a0 0,g w 2]]) (.rn [a3 w])) (λx a1=>.cells 3 (g a1 0) λa2=>match x with| .normal=>.Df 200010 (.ie [p,I 3] λa5=>.AH a5 (.rn [tt]) (.ie [p,I 2] λa7=>.rn [a7])) (λx a8=>match x with| .normal=>.Df 100044 (.AH (g a8 0) (.Bc 140 [S aSp,g a2 1] λb0=>.Df 100045 (.AH b0 (.op (.Hq 0 true true false) [g a2 1,I 6] λb1=>.cells 1 (I 4) λb2=>.cells 1 b1 λb3=>.rn [.agg [g b2 0,g b3 0,g a2 2]]) (.Df 200013 (.se [g a2 1,S aSU] λb4=>.AH b4 (.rn [tt]) (.se [g a2 1,S aSJ] λb5=>.rn [b5])) (λx b6=>match x with| .normal=>.Df 100054 (.AH (g b6 0) (.op (.Hq 0 true true false) [g a2 1,I 4] λb7=>.cells 1 (I 5) λb8=>.cells 1 b7 λb9=>.rn [.agg [g b8 0,g b9 0,g a2 2]]) (.se [g a2 1,S aSL] λc1=>.Df 100068 (.AH c1 (.cells 1 (I 6) λc2=>.rn [.agg [g c2 0,g a2 1,g a2 2]]) (.se [g a2 1,S aSB] λc3=>.Df 100073 (.AH c3 (.cells 1 (I 6) λc4=>.cells 1 (S aS2) λc5=>.rn [.agg [g c4 0,g c5 0,g a2 2]]) (.rn [a3 a2])) (λx c6=>.cells 3 (g c6 0) λc7=>.ret x [a3 c7]))) (λx c8=>.cells 3 (g c8 0) λc9=>.ret x [a3 c9]))) (λx d0=>.cells 3 (g d0 0) λd1=>.ret x [a3 d1])| .exit i=>.ret (.exit i) [a3 a2]| .ret=>.rr [a3 a2]))) (λx d2=>.cells 3 (g d2 0) λd3=>match x with| .normal=>.rn [a3 d3]| .exit i=>if i=2 then .rn [a3 d3] else .ret (.exit i) [a3 d3]| .ret=>.rr [a3 d3])) (.rn [a3 a2])) (λx d4=>.cells 3 (g d4 0) λd5=>match x with| .normal=>.op (.Bx 3) [a3 d5] λd6=>.op (.append 3 40) [g a 0,d6] λd7=>.ia [g a 1,I 1] λd8=>.rn [d7,d8]| .exit i=>if i=1 then .ia [g a 1,I 1] λd9=>.rn [g a 0,d9] else .ret (.exit i) [g a 0,g a 1]| .ret=>.rr [g a 0,g a 1])| .exit i=>if i=1 then .ia [g a 1,I 1] λe0=>.rn [g a 0,e0] else .ret (.exit i) [g a 0,g a 1]| .ret=>.rr [g a 0,g a 1])| .exit i=>if i=1 then .ia [g a 1,I 1] λe1=>.rn [g a 0,e1] else .ret (.exit i) [g a 0,g a 1]| .ret=>.rr [g a 0,g a 1])| .exit i=>if i=1 then .ia [g a 1,I 1] λe2=>.rn [g a 0,e2] else .ret (.exit i) [g a 0,g a 1]| .ret=>.rr [g a 0,g a 1])| .exit i=>if i=1 then .ia [g a 1,I 1] λe3=>.rn [g a 0,e3] else .ret (.exit i) [g a 0,g a 1]| .ret=>.rr [g a 0,g a 1])) (.rx 0 [g a 0,g a 1])) (lx 0 (λe4=>.rr [g e4 0]) λe4=>.rr [.slnil])
theorem nl:DR cx 201 aFo:=λ_ _=>by kernel_rfl
end Go.Am
