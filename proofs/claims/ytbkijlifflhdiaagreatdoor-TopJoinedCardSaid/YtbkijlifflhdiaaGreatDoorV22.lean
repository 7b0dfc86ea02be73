/- Lemmas -/
import Derived.Test.YtbkijlifflhdiaaGreatDoorV9
import Derived.Test.YtbkijlifflhdiaaGreatDoorV18
set_option linter.all false
namespace Go.Am
open Go
def t91(p q:Aa):IT:=
 .cells 4 q λa=>.op (.RW true) [p,.ptr none] λb=>.A4 b (.E4 p 0 λ_ _ c=>.E4 p 0 λ_ _ d=>.ln [d] λe=>.ca 134 [c,a4 a,e] λf=>.fa p 0 λ_ h=>.store 1 h f (.rr [.tuple []])) (.rr [.tuple []])
def tX:F7 cx 91 t91:=λ_ _=>AQ
def t92(p q r:Aa):IT:=
 .ie [p,I 2] λa=>.A4 a (.Ck 113 [p,q] λb=>.rr [b]) (.iq [p,I 3] λc=>.A4 c (.rr [ff]) (.op (.str .neq) [q,S aJr] λd=>.A4 d (.rr [ff]) (.ca 135 [r,.func (.func 136) [] []] λe=>.ih [e,I 0] λf=>.A4 f (.ea 3 [r,e] λh=>.fl h 2 λ_ j=>.Ck 137 [j,S aJW] λk=>.A4 k (.rr [tt]) (.ea 3 [r,e] λm=>.fl m 2 λ_ n=>.Ck 137 [n,S aJy] λo=>.rr [o])) (.rr [ff]))))
def tY:Pm cx 92 t92:=λ_ _ _=>AQ
def t93(p q:Aa):IT:=
 .cells 4 p λa=>.ie [g a 1,I 1] λb=>.A4 b (.ca 138 [q,g a 2] λc=>.rr [c]) (.rr [ff])
def tZ:F7 cx 93 t93:=λ_ _=>AQ
def š(p q r u:Aa):IT:=
 .cells 12 r λa=>.ca 47 [p,I 0] λb=>.op (.ext 0) [b] λc=>.op (.ext 1) [b] λd=>.EK q [gh a,u,c] λe=>.cells 4 e λf=>.iq [g f 0,I 0] λh=>.A4 h (.ca 53 [p,g f 0,c,d] λ_=>.fa p 2 λ_ j=>.ca 91 [j,a4 f] λ_=>.rr [g f 0]) (.rr [g f 0])
def eE:zr cx 94 š:=λ_ _ _ _=>AQ
def t95(p:Aa):IT:=
 .fa p 2 λ_ a=>.fa p 2 λ_ b=>.ca 120 [a,S aJs] λc=>.ca 120 [b,S aJq] λd=>.ig [d,c] λe=>.A4 e (.fa p 2 λ_ f=>.ca 81 [f,d] λh=>.op (.part 0 none) [h] λj=>.rr [.tuple [j,I 0]]) (.il [c,I 0] λk=>.A4 k (.fa p 2 λ_ m=>.ca 81 [m,I 0] λn=>.op (.part 0 none) [n] λo=>.rr [.tuple [o,I 0]]) (.fa p 2 λ_ s=>.ca 81 [s,c] λu=>.op (.part 0 none) [u] λw=>.E4 p 0 λ_ _ y=>.ca 139 [y,w] λz=>.iq [z,I 0] λa0=>.A4 a0 (.rr [.tuple [z,w]]) (.fa p 2 λ_ a1=>.ib [c,I 1] λa2=>.op (.Jt true) [a2,I 0] λa5=>.ca 81 [a1,a5] λa7=>.op (.part 0 none) [a7] λa8=>.rr [.tuple [a8,I 0]])))
def uA:KC cx 95 t95:=λ_=>AQ
def Ţ(p q:Aa):IT:=
 .op (.conv .u32) [q] λa=>.ik [a,.int .u32 2047] λb=>.A4 b (.op (.int .shr) [q,.int .u64 6] λc=>.op (.conv .u8) [c] λd=>.op (.int .or) [.int .u8 192,d] λe=>.op (.conv .u8) [q] λf=>.op (.int .and) [f,.int .u8 63] λh=>.op (.int .or) [.int .u8 128,h] λj=>.op (.Cd 1) [e,j] λk=>.FG 1 1 p k λm=>.rr [m]) (.il [a,.int .u32 55296] λn=>.A4 n (.op (.int .shr) [q,.int .u64 12] λo=>.op (.conv .u8) [o] λs=>.op (.int .or) [.int .u8 224,s] λu=>.op (.int .shr) [q,.int .u64 6] λw=>.op (.conv .u8) [w] λy=>.op (.int .and) [y,.int .u8 63] λz=>.op (.int .or) [.int .u8 128,z] λa0=>.op (.conv .u8) [q] λa1=>.op (.int .and) [a1,.int .u8 63] λa2=>.op (.int .or) [.int .u8 128,a2] λa5=>.op (.Cd 1) [u,a0,a5] λa7=>.FG 1 1 p a7 λa8=>.rr [a8]) (.il [.int .u32 57343,a] λb0=>.A4 b0 (.ik [a,.int .u32 65535] λb1=>.A4 b1 (.op (.int .shr) [q,.int .u64 12] λb2=>.op (.conv .u8) [b2] λb3=>.op (.int .or) [.int .u8 224,b3] λb4=>.op (.int .shr) [q,.int .u64 6] λb5=>.op (.conv .u8) [b5] λb6=>.op (.int .and) [b6,.int .u8 63] λb7=>.op (.int .or) [.int .u8 128,b7] λb8=>.op (.conv .u8) [q] λb9=>.op (.int .and) [b9,.int .u8 63] λc0=>.op (.int .or) [.int .u8 128,c0] λc1=>.op (.Cd 1) [b4,b8,c1] λc2=>.FG 1 1 p c2 λc3=>.rr [c3]) (.ig [a,.int .u32 65535] λc4=>.A4 c4 (.ik [a,.int .u32 1114111] λc5=>.A4 c5 (.op (.int .shr) [q,.int .u64 18] λc6=>.op (.conv .u8) [c6] λc7=>.op (.int .or) [.int .u8 240,c7] λc8=>.op (.int .shr) [q,.int .u64 12] λc9=>.op (.conv .u8) [c9] λd0=>.op (.int .and) [d0,.int .u8 63] λd1=>.op (.int .or) [.int .u8 128,d1] λd2=>.op (.int .shr) [q,.int .u64 6] λd3=>.op (.conv .u8) [d3] λd4=>.op (.int .and) [d4,.int .u8 63] λd5=>.op (.int .or) [.int .u8 128,d5] λd6=>.op (.conv .u8) [q] λd7=>.op (.int .and) [d7,.int .u8 63] λd8=>.op (.int .or) [.int .u8 128,d8] λd9=>.op (.Cd 1) [c8,d2,d6,d9] λe0=>.FG 1 1 p e0 λe1=>.rr [e1]) (.op (.Cd 1) [.int .u8 239,.int .u8 191,.int .u8 189] λe2=>.FG 1 1 p e2 λe3=>.rr [e3])) (.op (.Cd 1) [.int .u8 239,.int .u8 191,.int .u8 189] λe4=>.FG 1 1 p e4 λe5=>.rr [e5]))) (.ig [a,.int .u32 65535] λe6=>.A4 e6 (.ik [a,.int .u32 1114111] λe7=>.A4 e7 (.op (.int .shr) [q,.int .u64 18] λe8=>.op (.conv .u8) [e8] λe9=>.op (.int .or) [.int .u8 240,e9] λf0=>.op (.int .shr) [q,.int .u64 12] λf1=>.op (.conv .u8) [f1] λf2=>.op (.int .and) [f2,.int .u8 63] λf3=>.op (.int .or) [.int .u8 128,f3] λf4=>.op (.int .shr) [q,.int .u64 6] λf5=>.op (.conv .u8) [f5] λf6=>.op (.int .and) [f6,.int .u8 63] λf7=>.op (.int .or) [.int .u8 128,f7] λf8=>.op (.conv .u8) [q] λf9=>.op (.int .and) [f9,.int .u8 63] λh0=>.op (.int .or) [.int .u8 128,h0] λh1=>.op (.Cd 1) [f0,f4,f8,h1] λh2=>.FG 1 1 p h2 λh3=>.rr [h3]) (.op (.Cd 1) [.int .u8 239,.int .u8 191,.int .u8 189] λh4=>.FG 1 1 p h4 λh5=>.rr [h5])) (.op (.Cd 1) [.int .u8 239,.int .u8 191,.int .u8 189] λh6=>.FG 1 1 p h6 λh7=>.rr [h7]))))
def eF:F7 cx 96 Ţ:=λ_ _=>AQ
def t97(p q r:Aa):IT:=
 .cells 13 r λa=>.ca 140 [p,q] λb=>.iq [b,I 0] λc=>.A4 c (.rr [.tuple [I 0,b]]) (.cells 1 q λd=>.ca 90 [p,.agg [g a 0,g a 1,g a 2,g d 0,g a 4,g a 5,g a 6,g a 7,g a 8,g a 9,g a 10,g a 11,g a 12]] λe=>.rr [.tuple [e,I 0]])
def uB:Pm cx 97 t97:=λ_ _ _=>AQ
def t98(p q:Aa):IT:=
 .ca 141 [p,q] λa=>.ih [a,I 0] λb=>.rr [b]
def uC:F7 cx 98 t98:=λ_ _=>AQ
def t99(p q:Aa):IT:=
 .ld q λa=>.ca 48 [a,p] λb=>.op (.part 0 none) [b] λc=>.ie [c,I 4] λd=>.rr [d]
def uD:F7 cx 99 t99:=λ_ _=>AQ
def Xv(p q r u:Aa):IT:=
 .op (.Cd 1) [q,r] λa=>.ca 54 [p,a] λb=>.iq [b,I 0] λc=>.A4 c (.rr [b]) (.EM 200004 (.iq [u,I 0] λd=>.A4 d (.ca 56 [p,u] λe=>.nt [e] λf=>.rn [f]) (.rn [ff])) (nx (λh=>.A4 (g h 0) (.rr [I 3]) (.ca 55 [p,q] λj=>.ca 55 [p,r] λk=>.EM 200007 (.fa j 0 λ_ m=>.fl m 0 λ_ n=>.iq [n,I 1] λo=>.A4 o (.fa j 0 λ_ s=>.fl s 0 λ_ w=>.iq [w,I 2] λy=>.A4 y (.fa j 0 λ_ z=>.fl z 0 λ_ a0=>.iq [a0,I 4] λa1=>.rn [a1]) (.rn [ff])) (.rn [ff])) (λx a2=>match x with| .normal=>.A4 (g a2 0) (.rr [I 4]) (.fa k 0 λ_ a5=>.fl a5 0 λ_ a7=>.ie [a7,I 1] λa8=>.A4 a8 (.rr [I 4]) (.fa k 0 λ_ b0=>.fl b0 0 λ_ b1=>.ie [b1,I 2] λb2=>.A4 b2 (.rr [I 4]) (.ca 142 [p,r,q] λb3=>.A4 b3 (.rr [I 4]) (.EM 200012 (.iq [u,I 0] λb4=>.A4 b4 (.ie [u,r] λb5=>.A4 b5 (.rn [tt]) (.ca 55 [p,u] λb6=>.fa b6 0 λ_ b7=>.fl b7 1 λ_ b8=>.iq [b8,q] λb9=>.rn [b9])) (.rn [ff])) (λx c0=>match x with| .normal=>.A4 (g c0 0) (.rr [I 5]) (.ca 132 [p,r] λ_=>.fa j 0 λ_ c1=>.fl c1 2 λ_ c2=>.ln [c2] λc3=>.iq [u,I 0] λc4=>.EM 100103 (.A4 c4 (.fa j 0 λ_ c5=>.fl c5 2 λ_ c7=>.ca 49 [c7,u] λc8=>.rn [c8]) (.rn [c3])) (nx (λc9=>.fa j 0 λ_ d0=>.fl d0 2 λ_ d1=>.op (.Cd 1) [r] λd2=>.mem .kM [d1,g c9 0,d2] λd3=>.fa j 0 λ_ d4=>.op (.FE 2) [d4] λd5=>.store 1 d5 d3 (.fa k 0 λ_ d6=>.op (.FE 1) [d6] λd7=>.store 1 d7 q (.rr [I 0]))) λc9=>.rr [I 0]))| .exit i=>if i=0 then .ca 132 [p,r] λ_=>.fa j 0 λ_ d8=>.fl d8 2 λ_ d9=>.ln [d9] λe0=>.iq [u,I 0] λe1=>.EM 100103 (.A4 e1 (.fa j 0 λ_ e2=>.fl e2 2 λ_ e3=>.ca 49 [e3,u] λe4=>.rn [e4]) (.rn [e0])) (nx (λe5=>.fa j 0 λ_ e6=>.fl e6 2 λ_ e7=>.op (.Cd 1) [r] λe8=>.mem .kM [e7,g e5 0,e8] λe9=>.fa j 0 λ_ f0=>.op (.FE 2) [f0] λf1=>.store 1 f1 e9 (.fa k 0 λ_ f2=>.op (.FE 1) [f2] λf3=>.store 1 f3 q (.rr [I 0]))) λe5=>.rr [I 0]) else .fail| .ret=>.rr [I 0])))))| .exit i=>if i=0 then .ca 132 [p,r] λ_=>.fa j 0 λ_ f4=>.fl f4 2 λ_ f5=>.ln [f5] λf6=>.iq [u,I 0] λf7=>.EM 100103 (.A4 f7 (.fa j 0 λ_ f8=>.fl f8 2 λ_ f9=>.ca 49 [f9,u] λh0=>.rn [h0]) (.rn [f6])) (nx (λh1=>.fa j 0 λ_ h2=>.fl h2 2 λ_ h3=>.op (.Cd 1) [r] λh4=>.mem .kM [h3,g h1 0,h4] λh5=>.fa j 0 λ_ h6=>.op (.FE 2) [h6] λh7=>.store 1 h7 h5 (.fa k 0 λ_ h8=>.op (.FE 1) [h8] λh9=>.store 1 h9 q (.rr [I 0]))) λh1=>.rr [I 0]) else .fail| .ret=>.rr [I 0]))) λh=>.rr [I 0]))
def K4:zr cx 100 Xv:=λ_ _ _ _=>AQ
def X_(p q:Aa):IT:=
 .cells 3 q λa=>.op (.RW false) [p,.ptr none] λb=>.A4 b (.rr [.tuple []]) (.iq [g a 0,I 0] λc=>.EM 100011 (.A4 c (.E4 p 0 λ_ _ d=>.ln [d] λe=>.ib [e,I 1] λf=>.loop 5 [I 0,I 0,f] (λh=>.ca 123 [p] λj=>.ih [g h 2,j] λk=>.A4 k (.E4 p 0 λ_ _ m=>.ea 3 [m,g h 2] λn=>.load (some 3) n λo=>.ca 151 [o,a3 a] λs=>.EM 100032 (.A4 s (.ia [g h 1,I 1] λu=>.rn [g h 2,u]) (.rn [g h 0,g h 1])) (λx w=>match x with| .normal=>.ib [g h 2,I 1] λy=>.rn [g w 0,g w 1,y]| .exit i=>if i=1 then .ib [g h 2,I 1] λz=>.rn [g w 0,g w 1,z] else .ret (.exit i) [g w 0,g w 1,g h 2]| .ret=>.rr [g w 0,g w 1,g h 2])) (.rx 0 [g h 0,g h 1,g h 2])) (λx a0=>match x with| .normal=>.fail| .exit i=>if i=0 then .ih [g a0 1,I 3] λa1=>.EM 100037 (.A4 a1 (.E4 p 0 λ_ _ a2=>.ca 152 [a2,g a0 0] λa5=>.fa p 0 λ_ a7=>.store 1 a7 a5 (.rn [])) (.rn [])) (λx _=>.ret x []) else .ret (.exit i) []| .ret=>.rr [])) (.rn [])) (nx (λa8=>.E4 p 0 λ_ b0 b1=>.E4 p 0 λ_ b2 b3=>.ln [b3] λb4=>.ca 153 [a3 a] λb5=>.ld b2 λb6=>.same b3 b6 (.ld b0 λb7=>.same b1 b7 (.ca 122 [b1,b5,b4] λb8=>.fa p 0 λ_ b9=>.store 1 b9 b8 (.rr [.tuple []])))) λa8=>.rr [.tuple []]))
def zA:F7 cx 105 X_:=λ_ _=>AQ
def Y_(p q r:Aa):IT:=
 .op (.B4 [I 0,I 0,.slnil,I 0,I 0,S [],.slnil,S [],S [],S [],ff,I 0,I 0] [(0,1),(7,1)]) [I 6,r] λa=>.ca 97 [p,q,a] λb=>.op (.ext 0) [b] λc=>.op (.ext 1) [b] λd=>.rr [.tuple [c,d]]
def zB:Pm cx 106 Y_:=λ_ _ _=>AQ
def Z_(p q r:Aa):IT:=
 .cells 1 r λa=>.ca 154 [p,q,.func (.func 155) [] [.Cb [g a 0]]] λb=>.rr [b]
def zC:Pm cx 107 Z_:=λ_ _ _=>AQ
def À(p q:Aa):IT:=
 .cells 1 q λa=>.ca 124 [p,.func (.func 156) [] [.Cb [g a 0]],.func (.func 125) [] []] λb=>.rr [b]
def zD:F7 cx 108 À:=λ_ _=>AQ
def t109(p q:Aa):IT:=
 .cells 1 q λa=>.ca 158 [p,.func (.func 159) [] [.Cb [g a 0]]] λb=>.rr [b]
def zE:F7 cx 109 t109:=λ_ _=>AQ
def zF(p:Aa):IT:=
 .op (.FN false .sl) [p,.slnil] λa=>.A4 a (.rr [.slnil]) (.op (.Cd 3) [] λb=>.IE 3 48 b p λc=>.rr [c])
def Xw:KC cx 110 zF:=λ_=>AQ
def Á(p:Aa):IT:=
 .cells 3 p λa=>.op (.B4 [I 0,S [],ff,S [],ff,S [],ff,ff,.slnil,ff,S [],.int .i32 0] [(0,1),(1,1),(8,1)]) [I 2,g a 1,g a 2] λb=>.cells 12 b λc=>.rr [gh c]
def zG:KC cx 111 Á:=λ_=>AQ
def qg(p q:Aa):IT:=
 .cells 1 q λa=>.ca 109 [p,g a 0] λb=>.il [b,I 0] λc=>.A4 c (.rr [I 0]) (.ca 124 [p,.func (.func 125) [] [],.func (.func 160) [] [.Cb [g a 0]]] λd=>.rr [d])
def iL:F7 cx 112 qg:=λ_ _=>AQ
def qh(p q:Aa):IT:=
 .ie [p,I 3] λa=>.A4 a (.se [q,S aJr] λb=>.A4 b (.rr [tt]) (.Ck 161 [p,q] λc=>.rr [c])) (.ie [p,I 2] λd=>.A4 d (.se [q,S aJZ] λe=>.A4 e (.rr [tt]) (.se [q,S aJt] λf=>.A4 f (.rr [tt]) (.se [q,S aJF] λh=>.rr [h]))) (.ie [p,I 1] λj=>.A4 j (swv q (.rr [tt]) (.rr [ff]) Pn) (.rr [ff])))
def iM:F7 cx 113 qh:=λ_ _=>AQ
def Â(p q:Aa):IT:=
 .op (.RW false) [p,.ptr none] λa=>.A4 a (.rr [I (-1)]) (.ie [q,I 0] λb=>.A4 b (.rr [I (-1)]) (.E4 p 0 λ_ _ c=>.ln [c] λd=>.ib [d,I 1] λe=>.loop 4 [I 0,e] (λf=>.ih [g f 1,I 0] λh=>.A4 h (.E4 p 0 λ_ _ j=>.ea 3 [j,g f 1] λk=>.fl k 0 λ_ m=>.ie [m,q] λn=>.A4 n (.rr [g f 1,g f 1]) (.ib [g f 1,I 1] λo=>.rn [g f 0,o])) (.rx 0 [g f 0,g f 1])) (lx 0 (λs=>.rr [I (-1)]) λs=>.rr [g s 0])))
def zH:F7 cx 114 Â:=λ_ _=>AQ
def eI(p q:Aa):IT:=
 .fa p 3 λ_ a=>.ca 162 [a,q] λb=>.il [b,I 0] λc=>.A4 c (.ca 65 [p,q] λ_=>.rr [ff]) (.fa p 3 λ_ d=>.fl d 0 λ_ e=>.ea 3 [e,b] λf=>.load (some 3) f λh=>.op (.B4 [I 0,S [],.slnil,I 0,I 0,I 0,I 0,S [],ff,I 0,I 0,S [],ff,I 0] [(0,3),(3,1),(4,1)]) [h,b,b] λj=>.alloc 14 j λk=>.fa k 0 λ_ m=>.fl m 0 λ_ n=>.fa p 2 λ_ o=>.ca 109 [o,n] λs=>.il [s,I 0] λu=>.A4 u (.ca 163 [k,p,b] λ_=>.rr [ff]) (.ie [s,I 0] λw=>.A4 w (.rr [ff]) (.fa p 2 λ_ y=>.ca 164 [y,I 1,n] λz=>.nt [z] λa0=>.A4 a0 (.rr [ff]) (.fa p 2 λ_ a1=>.ca 165 [a1,n] λa2=>.il [a2,I 0] λa5=>.A4 a5 (.fa p 2 λ_ a7=>.ca 112 [a7,n] λ_=>.ca 163 [k,p,b] λ_=>.rr [ff]) (.fa p 2 λ_ a8=>.ib [s,I 1] λb0=>.fa p 2 λ_ b1=>.ca 81 [a8,b0] λb2=>.ca 81 [b1,a2] λb3=>.fa k 5 λ_ b4=>.store 4 b4 b2 (.fa k 9 λ_ b5=>.store 4 b5 b3 (.fa k 9 λ_ b6=>.fl b6 0 λ_ b7=>.fa k 13 λ_ b8=>.store 1 b8 b7 (.ca 166 [p,k,s,a2] λ_=>.fa k 5 λ_ b9=>.fl b9 0 λ_ c0=>.ca 47 [p,c0] λc1=>.op (.ext 0) [c1] λc2=>.op (.ext 1) [c1] λc3=>.E4 k 13 λ_ _ c4=>.ca 53 [p,c4,c2,c3] λ_=>.fa k 0 λ_ c5=>.load (some 3) c5 λc6=>.fa k 9 λ_ c7=>.fl c7 0 λc8 c9=>.ca 111 [c6] λd0=>.ld c8 λd1=>.same c9 d1 (.ca 76 [p,d0,I 1,c9] λd2=>.cells 4 d2 λd3=>.E4 p 0 λ_ _ d4=>.fa k 9 λ_ d5=>.fl d5 0 λ_ d6=>.ca 84 [d4,d6] λd7=>.ln [d7] λd8=>.loop 25 [I 0] (λd9=>.il [g d9 0,d8] λe0=>.A4 e0 (.ea 1 [d7,g d9 0] λe1=>.ld e1 λe2=>.ca 53 [p,e2,g d3 0,I 0] λ_=>.ia [g d9 0,I 1] λe3=>.rn [e3]) (.rx 0 [g d9 0])) (lx 0 (λe4=>.fa k 9 λ_ e5=>.fl e5 0 λ_ e6=>.ca 53 [p,g d3 0,e6,I 0] λ_=>.E4 k 3 λ_ _ e7=>.ca 163 [k,p,e7] λ_=>.fa p 3 λ_ e8=>.fa k 0 λ_ e9=>.fl e9 1 λ_ f0=>.fa k 0 λ_ f1=>.fl f1 2 λ_ f2=>.op (.B4 [I 0,S [],.slnil] [(0,1),(1,1),(2,1)]) [g d3 0,f0,f2] λf3=>.E4 k 4 λ_ _ f4=>.ca 167 [e8,f3,f4] λ_=>.fa p 2 λ_ f5=>.ca 168 [f5,n] λ_=>.fa p 2 λ_ f6=>.fa p 2 λ_ f7=>.fa k 9 λ_ f8=>.fl f8 0 λ_ f9=>.ca 109 [f7,f9] λh0=>.ia [h0,I 1] λh1=>.ca 169 [f6,a4 d3,h1] λ_=>.rr [tt]) λe4=>.rr [ff]))))))))))
def NJ:F7 cx 115 eI:=λ_ _=>AQ
def qi(p q r:Aa):IT:=
 .cells 4 q λa=>.ca 170 [] λb=>.ln [b] λc=>.loop 2 [I 0,ff,I 0] (λd=>.il [g d 2,c] λe=>.A4 e (.ea 2 [b,g d 2] λf=>.load (some 2) f λh=>.cells 2 h λj=>.op (.Cd 1) [g j 0] λk=>.ca 93 [a4 a,k] λm=>.A4 m (.rr [g j 1,tt,g d 2]) (.ia [g d 2,I 1] λn=>.rn [g d 0,g d 1,n])) (.rx 0 [g d 0,g d 1,g d 2])) (lx 0 (λo=>.op (.Cd 1) [S aJX] λs=>.ca 93 [a4 a,s] λu=>.A4 u (.ca 171 [p,r] λw=>.rr [.tuple [w,tt]]) (.EM 200009 (.op (.Cd 1) [S [116,100],S [116,104]] λy=>.ca 93 [a4 a,y] λz=>.A4 z (.ig [r,I 0] λa0=>.rn [a0]) (.rn [ff])) (λx a1=>match x with| .normal=>.A4 (g a1 0) (.rr [.tuple [I 15,tt]]) (.op (.Cd 1) [S aJq] λa2=>.ca 93 [a4 a,a2] λa5=>.A4 a5 (.E4 p 6 λ_ _ a7=>.ln [a7] λa8=>.ig [a8,I 0] λb0=>.A4 b0 (.E4 p 6 λ_ _ b1=>.ib [a8,I 1] λb2=>.ea 1 [b1,b2] λb3=>.ld b3 λb4=>.rr [.tuple [b4,tt]]) (.rr [.tuple [I 7,tt]])) (.EM 200016 (.op (.Cd 1) [S [104,101,97,100]] λb5=>.ca 93 [a4 a,b5] λb6=>.A4 b6 (.ig [r,I 0] λb7=>.rn [b7]) (.rn [ff])) (λx b8=>match x with| .normal=>.A4 (g b8 0) (.rr [.tuple [I 4,tt]]) (.op (.Cd 1) [S aJv] λb9=>.ca 93 [a4 a,b9] λc1=>.A4 c1 (.E4 p 7 λ_ _ c2=>.ie [c2,I 0] λc4=>.A4 c4 (.rr [.tuple [I 3,tt]]) (.rr [.tuple [I 6,tt]])) (.ie [r,I 0] λc5=>.rr [.tuple [I 7,c5]]))| .exit i=>if i=2 then .ie [r,I 0] λc6=>.rr [.tuple [I 7,c6]] else .fail| .ret=>.rr [.tuple [g o 0,g o 1]])))| .exit i=>if i=2 then .ie [r,I 0] λc8=>.rr [.tuple [I 7,c8]] else .fail| .ret=>.rr [.tuple [g o 0,g o 1]]))) λo=>.rr [.tuple [g o 0,g o 1]])
def iN:Pm cx 116 qi:=λ_ _ _=>AQ
def zI(p q:Aa):IT:=
 .ca 135 [p,q] λa=>.ih [a,I 0] λb=>.rr [b]
def Xx:F7 cx 117 zI:=λ_ _=>AQ
def Ã(p q:Aa):IT:=
 .cells 3 p λa=>.ie [g a 0,I 0] λb=>.A4 b (.fl q 1 λ_ c=>.se [g a 1,c] λd=>.rr [d]) (.rr [ff])
def zJ:F7 cx 118 Ã:=λ_ _=>AQ
def Ä(p q r:Aa):IT:=
 .op (.Cd 1) [q] λa=>.ca 54 [p,a] λb=>.iq [b,I 0] λc=>.A4 c (.rr [b]) (.ca 55 [p,q] λd=>.fa d 0 λ_ e=>.fl e 0 λ_ f=>.iq [f,I 4] λh=>.A4 h (.rr [I 9]) (.ca 172 [r] λj=>.op (.ext 0) [j] λk=>.op (.ext 1) [j] λm=>.nt [m] λn=>.A4 n (.rr [I 2]) (.fa d 0 λ_ o=>.op (.FE 6) [o] λs=>.store 1 s k (.rr [I 0]))))
def zK:Pm cx 119 Ä:=λ_ _ _=>AQ
def qj(p q:Aa):IT:=
 .cells 1 q λa=>.ca 158 [p,.func (.func 173) [] [.Cb [g a 0]]] λb=>.rr [b]
def iO:F7 cx 120 qj:=λ_ _=>AQ
def Å(p:Aa):IT:=
 .ca 124 [p,.func (.func 174) [] [],.func (.func 125) [] []] λa=>.rr [a]
def zL:KC cx 121 Å:=λ_=>AQ
def Æ(p q r:Aa):IT:=
 .cells 3 q λa=>.op (.P4 3 false false true) [p,r] λb=>.op (.append 3 48) [.slnil,b] λc=>.op (.Cd 3) [a3 a] λd=>.op (.append 3 48) [c,d] λe=>.op (.P4 3 false true false) [p,r] λf=>.op (.append 3 48) [e,f] λh=>.rr [h]
def zM:Pm cx 122 Æ:=λ_ _ _=>AQ
def Ç(p:Aa):IT:=
 .E4 p 0 λ_ _ a=>.ln [a] λb=>.loop 2 [b] (λc=>.ig [g c 0,I 0] λd=>.A4 d (.E4 p 0 λ_ _ e=>.ib [g c 0,I 1] λf=>.ea 3 [e,f] λh=>.fl h 0 λ_ j=>.iq [j,I 0] λk=>.A4 k (.ib [g c 0,I 1] λm=>.rn [m]) (.rx 0 [g c 0])) (.rx 0 [g c 0])) (lx 0 (λn=>.rr [g n 0]) λn=>.rr [I 0])
def zN:KC cx 123 Ç:=λ_=>AQ
def È(p q r:Aa):IT:=
 .loop 2 [I 0] (λa=>.ca 82 [p] λb=>.ig [b,I 1] λc=>.A4 c (.ca 37 [p] λd=>.EK q [d] λe=>.nt [e] λf=>.A4 f (.ia [g a 0,I 1] λh=>.ca 73 [p] λj=>.EK r [j] λk=>.A4 k (.rx 0 [h]) (.rn [h])) (.rx 0 [g a 0])) (.rx 0 [g a 0])) (lx 0 (λm=>.rr [g m 0]) λm=>.rr [I 0])
def zO:Pm cx 124 È:=λ_ _ _=>AQ
def É(p:Aa):IT:=
 .cells 4 p λ_=>.rr [ff]
def zP:KC cx 125 É:=λ_=>AQ
def Ê(p q:Aa):IT:=
 .cells 4 p λa=>.ld q λb=>.ca 127 [a4 a,b] λc=>.rr [c]
def zQ:F7 cx 126 Ê:=λ_ _=>AQ
def t127(p q:Aa):IT:=
 .cells 4 p λa=>.ie [g a 1,I 1] λb=>.A4 b (.ca 138 [q,g a 2] λc=>.rr [c]) (.rr [ff])
def iP:F7 cx 127 t127:=λ_ _=>AQ
def qk(p q:Aa):IT:=
 .NO λa=>.op (.B4 [I 0,S [],S []] [(0,1),(1,1)]) [I 4,S aJU] λb=>.Ja a (S aJA) b (.op (.B4 [I 0,S [],S []] [(0,1),(1,1)]) [I 4,S aJT] λc=>.Ja a (S aJz) c (.op (.B4 [I 0,S [],S []] [(0,1),(1,1)]) [I 4,S aJ4] λd=>.Ja a (S aJK) d (.op (.B4 [I 0,S [],S []] [(0,1),(1,1)]) [I 4,S aJ5] λe=>.Ja a (S aJL) e (.op (.B4 [I 0,S [],S []] [(0,1),(1,1)]) [I 4,S aJ6] λf=>.Ja a (S aJM) f (.op (.B4 [I 0,S [],S []] [(0,1),(1,1)]) [I 4,S aJF] λh=>.Ja a (S aJB) h (.op (.B4 [I 0,S [],S []] [(0,1),(1,1)]) [I 4,S aJ7] λj=>.Ja a (S aJN) j (.op (.B4 [I 0,S [],S []] [(0,1),(1,1)]) [I 5,S [108,97,110,103]] λk=>.Ja a (S aJR) k (.op (.B4 [I 0,S [],S []] [(0,1),(1,1)]) [I 5,S aJ3] λm=>.Ja a (S aJP) m (.op (.B4 [I 0,S [],S []] [(0,1),(1,1)]) [I 6,S aJG] λn=>.Ja a (S aJG) n (.op (.B4 [I 0,S [],S []] [(0,1),(1,1)]) [I 6,S aJ2] λo=>.Ja a (S aJC) o (.ln [q] λs=>.loop 4 [.slnil,I 0] (λu=>.il [g u 1,s] λw=>.A4 w (.ea 3 [q,g u 1] λy=>.load (some 3) y λz=>.cells 3 z λa0=>.op (.B4 [I 0,S [],S []] [(1,1),(2,1)]) [g a0 1,g a0 2] λa1=>.cells 3 a1 λa2=>.ie [p,I 2] λa5=>.EM 100036 (.A4 a5 (.Ck 176 [g a0 1] λa7=>.cells 1 a7 λa8=>.rn [.agg [g a2 0,g a8 0,g a2 2]]) (.EM 200009 (.ie [p,I 3] λb0=>.A4 b0 (.se [g a0 1,S aJO] λb1=>.rn [b1]) (.rn [ff])) (λx b2=>match x with| .normal=>.EM 100043 (.A4 (g b2 0) (.cells 1 (S aJQ) λb3=>.rn [.agg [g a2 0,g b3 0,g a2 2]]) (.rn [a3 a2])) (λx b4=>.cells 3 (g b4 0) λb5=>.ret x [a3 b5])| .exit i=>.ret (.exit i) [a3 a2]| .ret=>.rr [a3 a2]))) (λx b6=>.cells 3 (g b6 0) λb7=>match x with| .normal=>.Ls (.agg [I 0,S [],S []]) true a (g b7 1) λb8=>.op (.ext 0) [b8] λb9=>.op (.ext 1) [b8] λc0=>.cells 3 b9 λc1=>.EM 200012 (.A4 c0 (.ie [p,I 2] λc2=>.A4 c2 (.rn [tt]) (.ie [p,I 3] λc3=>.rn [c3])) (.rn [ff])) (λx c4=>match x with| .normal=>.EM 100067 (.A4 (g c4 0) (.cells 1 (g c1 0) λc5=>.cells 1 (g c1 1) λc6=>.rn [.agg [g c5 0,g c6 0,g b7 2]]) (.rn [a3 b7])) (λx c7=>.cells 3 (g c7 0) λc8=>match x with| .normal=>.op (.Cd 3) [a3 c8] λc9=>.op (.append 3 40) [g u 0,c9] λd0=>.ia [g u 1,I 1] λd1=>.rn [d0,d1]| .exit i=>if i=1 then .ia [g u 1,I 1] λd2=>.rn [g u 0,d2] else .ret (.exit i) [g u 0,g u 1]| .ret=>.rr [g u 0,g u 1])| .exit i=>if i=1 then .ia [g u 1,I 1] λd3=>.rn [g u 0,d3] else .ret (.exit i) [g u 0,g u 1]| .ret=>.rr [g u 0,g u 1])| .exit i=>if i=2 then .Ls (.agg [I 0,S [],S []]) true a (g b7 1) λd4=>.op (.ext 0) [d4] λd5=>.op (.ext 1) [d4] λd6=>.cells 3 d5 λd7=>.EM 200012 (.A4 d6 (.ie [p,I 2] λd8=>.A4 d8 (.rn [tt]) (.ie [p,I 3] λd9=>.rn [d9])) (.rn [ff])) (λx e0=>match x with| .normal=>.EM 100067 (.A4 (g e0 0) (.cells 1 (g d7 0) λe1=>.cells 1 (g d7 1) λe2=>.rn [.agg [g e1 0,g e2 0,g b7 2]]) (.rn [a3 b7])) (λx e3=>.cells 3 (g e3 0) λe4=>match x with| .normal=>.op (.Cd 3) [a3 e4] λe5=>.op (.append 3 40) [g u 0,e5] λe6=>.ia [g u 1,I 1] λe7=>.rn [e6,e7]| .exit i=>if i=1 then .ia [g u 1,I 1] λe8=>.rn [g u 0,e8] else .ret (.exit i) [g u 0,g u 1]| .ret=>.rr [g u 0,g u 1])| .exit i=>if i=1 then .ia [g u 1,I 1] λe9=>.rn [g u 0,e9] else .ret (.exit i) [g u 0,g u 1]| .ret=>.rr [g u 0,g u 1]) else if i=1 then .ia [g u 1,I 1] λf0=>.rn [g u 0,f0] else .ret (.exit i) [g u 0,g u 1]| .ret=>.rr [g u 0,g u 1])) (.rx 0 [g u 0,g u 1])) (lx 0 (λf1=>.rr [g f1 0]) λf1=>.rr [.slnil]))))))))))))
def iQ:F7 cx 128 qk:=λ_ _=>AQ
def ql(p:Aa):IT:=
 .Ck 177 [p,S aJp] λa=>.rr [a]
def iR:KC cx 129 ql:=λ_=>AQ
end Go.Am
