/- Lemmas -/
import Derived.Test.YtefjamneieebhaaGreatDoorS10
import Derived.Test.YtefjamneieebhaaGreatDoorS18
set_option linter.unusedVariables false
set_option linter.unusedSimpArgs false
namespace Go.Am
open Go
def t57(p q:Aa):IT:=
 .ln [p] λa=>.loop 2 [I 0,I 0] (λb=>.il [g b 1,a] λc=>.AH c (.ea 1 [p,g b 1] λd=>.ld d λe=>.ie [q,e] λf=>.AH f (.rr [g b 1,g b 1]) (.ia [g b 1,I 1] λh=>.rn [g b 0,h])) (.rx 0 [g b 0,g b 1])) (lx 0 (λj=>.rr [I (-1)]) λj=>.rr [g j 0])
theorem zJ:DR cx 57 t57:=λ_ _=>by kernel_rfl
def t58(p q:Aa):IT:=
 .op (.conv .u32) [q] λa=>.ik [a,.int .u32 127] λb=>.AH b (.op (.conv .u8) [q] λc=>.op (.Bx 1) [c] λd=>.FE 1 1 p d λe=>.rr [e]) (.call 154 [p,q] λf=>.rr [f])
theorem zK:DR cx 58 t58:=λ_ _=>by kernel_rfl
def t59(p q r:Aa):IT:=
 .op (.Bx 1) [q] λa=>.call 155 [p,a] λb=>.iq [b,I 0] λc=>.AH c (.rr [b]) (.call 145 [p,q] λd=>.fa d 0 λ_ e=>.fl e 0 λ_ f=>.iq [f,I 5] λh=>.AH h (.fa d 0 λ_ j=>.fl j 0 λ_ k=>.iq [k,I 6] λm=>.AH m (.rr [I 9]) (.fa d 0 λ_ n=>.op (.EC 7) [n] λo=>.store 1 o r (.rr [I 0]))) (.fa d 0 λ_ s=>.op (.EC 7) [s] λu=>.store 1 u r (.rr [I 0])))
theorem zL:Lt cx 59 t59:=λ_ _ _=>by kernel_rfl
def t60(p q r:Aa):IT:=
 .op (.Bs [I 0,I 0,.slnil,I 0,I 0,S [],.slnil,S [],S [],S [],ff,I 0,I 0] [(0,1),(7,1)]) [I 5,r] λa=>.call 156 [p,q,a] λb=>.op (.ext 0) [b] λc=>.op (.ext 1) [b] λd=>.rr [.tuple [c,d]]
theorem zM:Lt cx 60 t60:=λ_ _ _=>by kernel_rfl
def t61(p q r u:Aa):IT:=
 .cells 1 p λa=>.call 45 [g a 0,r] λb=>.op (.part 0 none) [b] λc=>.ie [c,I 1] λd=>.AH d (.call 45 [g a 0,q] λe=>.op (.part 0 none) [e] λf=>.ie [f,I 4] λh=>.AH h (.BY (g a 0) 0 λ_ _ j=>.call 119 [j,r] λk=>.call 157 [k,.func (.func 158) [] [.CA [g a 0]]] λm=>.AH m (.rr [.tuple []]) (.ld (.CA [g a 0]) λn=>.BY n 0 λ_ _ o=>.call 159 [o,r,q,u] λ_=>.rr [.tuple []])) (.BY (g a 0) 0 λ_ _ s=>.call 159 [s,r,q,u] λ_=>.rr [.tuple []])) (.BY (g a 0) 0 λ_ _ w=>.call 159 [w,r,q,u] λ_=>.rr [.tuple []])
theorem VF:xV cx 61 t61:=λ_ _ _ _=>by kernel_rfl
def t62(p:Aa):IT:=
 .op (.GV false .sl) [p,.slnil] λa=>.AH a (.rr [.slnil]) (.op (.Bx 1) [] λb=>.op (.append 1 8) [b,p] λc=>.rr [c])
theorem jA:GL cx 62 t62:=λ_=>by kernel_rfl
def t63(p:Aa):IT:=
 .op (.GV false .sl) [p,.slnil] λa=>.AH a (.rr [.slnil]) (.op (.Bx 3) [] λb=>.FV 3 40 b p λc=>.rr [c])
theorem jB:GL cx 63 t63:=λ_=>by kernel_rfl
def t64(p q:Aa):IT:=
 .op (.Tg true) [p,.ptr none] λa=>.AH a (.ih [q,I 1] λb=>.AH b (.BY p 0 λ_ _ c=>.ln [c] λd=>.ik [q,d] λe=>.rr [e]) (.rr [ff])) (.rr [ff])
theorem zN:DR cx 64 t64:=λ_ _=>by kernel_rfl
def t68(p q:Aa):IT:=
 .BY p 0 λ_ _ a=>.ln [a] λb=>.op (.Bs [I 0,I 0,.slnil,I 0,I 0,S [],.slnil,S [],S [],S [],ff,I 0,I 0] [(0,1),(3,1),(10,1)]) [I 1,b,q] λc=>.call 164 [p,c] λd=>.rr [d]
theorem aAl:DR cx 68 t68:=λ_ _=>by kernel_rfl
def t69(p q r:Aa):IT:=
 .cells 5 r λa=>.call 70 [p,q] λb=>.op (.Tg false) [b,.ptr none] λc=>.AH c (.rr [.ptr none]) (.call 165 [p,q,I 1,S aSx,.slnil] λd=>.op (.ext 0) [d] λe=>.op (.ext 1) [d] λ_=>.call 131 [b,q,e,I 0] λ_=>.op (.Bs [I 0,I 0,S [],ff] [(0,1),(1,1),(2,1)]) [e,I 1,S aSx] λf=>.op (.Bx 4) [f] λh=>.fa b 2 λ_ j=>.store 1 j h (.fa b 9 λ_ k=>.store 1 k tt (.call 166 [g a 0,g a 1,g a 2] λm=>.op (.Bs [I 0,I 0,S [],ff] [(1,1),(2,1),(3,1)]) [g a 0,g a 1,m] λn=>.fa b 10 λ_ o=>.store 4 o n (.ie [g a 0,I 1] λs=>.AH s (.se [g a 1,S aSo] λu=>.AH u (.op (.Bx 1) [I 18] λw=>.fa b 6 λ_ y=>.store 1 y w (.call 94 [b] λ_=>.AH (g a 4) (.fa b 8 λ_ z=>.store 1 z (I (-1)) (.rr [b])) (.rr [b]))) (.call 94 [b] λ_=>.AH (g a 4) (.fa b 8 λ_ a0=>.store 1 a0 (I (-1)) (.rr [b])) (.rr [b]))) (.call 94 [b] λ_=>.AH (g a 4) (.fa b 8 λ_ a1=>.store 1 a1 (I (-1)) (.rr [b])) (.rr [b]))))))
theorem aAm:Lt cx 69 t69:=λ_ _ _=>by kernel_rfl
def t70(p q:Aa):IT:=
 .call 167 [p,q] λa=>.iq [a,I 0] λb=>.AH b (.rr [.ptr none]) (.op (.Bs [.ptr none,I 0,.slnil,.slnil,I 0,I 0,.slnil,I 0,I 0,ff,I 0,I 0,S [],ff,ff,ff,S [],ff,I 0,ff] [(0,1),(1,1),(4,1),(14,1)]) [p,q,I 1,tt] λc=>.alloc 20 c λd=>.rr [d])
theorem aAn:DR cx 70 t70:=λ_ _=>by kernel_rfl
def t71(p:Aa):IT:=
 .cells 9 p λa=>.op (.append 3 40) [.slnil,g a 2] λb=>.op (.Bs [I 0,S [],ff,S [],ff,S [],ff,ff,.slnil,ff,S [],.int .i32 0] [(0,1),(1,1),(8,1)]) [I 2,g a 1,b] λc=>.cells 12 c λd=>.rr [uI d]
theorem aAo:GL cx 71 t71:=λ_=>by kernel_rfl
def t72(p q r:Aa):IT:=
 .call 35 [p] λa=>.nt [a] λb=>.AH b (.rr [.tuple []]) (.ie [r,I 0] λc=>.Df 100014 (.AH c (.call 14 [p,I 0] λd=>.op (.ext 0) [d] λe=>.op (.ext 1) [d] λf=>.rn [e,f]) (.rn [r,I 0])) (nx (λh=>.call 45 [p,g h 0] λj=>.cells 13 j λk=>.Df 200005 (.iq [g k 0,I 1] λm=>.AH m (.iq [g k 0,I 2] λn=>.AH n (.iq [g k 0,I 4] λo=>.rn [o]) (.rn [ff])) (.rn [ff])) (nx (λs=>.AH (g s 0) (.rr [.tuple []]) (.BY p 0 λ_ _ u=>.call 168 [u,g k 3,q] λw=>.op (.ext 0) [w] λy=>.op (.ext 1) [w] λz=>.ie [z,I 0] λa0=>.Df 100048 (.AH a0 (.call 61 [p,y,g h 0,g h 1] λ_=>.rn []) (.rn [])) (nx (λa1=>.rr [.tuple []]) λa1=>.rr [.tuple []]))) λs=>.rr [.tuple []])) λh=>.rr [.tuple []]))
theorem zO:Lt cx 72 t72:=λ_ _ _=>by kernel_rfl
def t73(p q r:Aa):IT:=
 .cells 12 q λa=>.call 35 [p] λb=>.AH b (.call 23 [p,uI a] λ_=>.BY p 4 λ_ _ c=>.fa p 18 λ_ d=>.store 1 d r (.fa p 5 λ_ e=>.store 1 e c (.fa p 4 λ_ f=>.store 1 f (I 8) (.rr [.tuple []])))) (.rr [.tuple []])
theorem aAp:Lt cx 73 t73:=λ_ _ _=>by kernel_rfl
def t74(p:Aa):IT:=
 .call 35 [p] λa=>.AH a (.fa p 2 λ_ b=>.op (.Bx 1) [S [112]] λc=>.call 169 [b,I 3,c] λd=>.AH d (.fa p 2 λ_ e=>.call 170 [e,S [112]] λ_=>.fa p 2 λ_ f=>.op (.Bx 1) [S [112]] λh=>.call 83 [f,h] λ_=>.rr [.tuple []]) (.rr [.tuple []])) (.rr [.tuple []])
theorem zP:GL cx 74 t74:=λ_=>by kernel_rfl
def t75(p:Aa):IT:=
 .call 35 [p] λa=>.nt [a] λb=>.AH b (.Hr 3 p (.rr [.tuple []])) (.fa p 3 λ_ c=>.fl c 0 λ_ d=>.ln [d] λe=>.loop 2 [e] (λf=>.ig [g f 0,I 0] λh=>.AH h (.fa p 3 λ_ j=>.fl j 0 λ_ k=>.ib [g f 0,I 1] λm=>.ea 3 [k,m] λn=>.fl n 0 λ_ o=>.iq [o,I 0] λs=>.AH s (.fa p 2 λ_ u=>.fa p 3 λ_ w=>.fl w 0 λ_ y=>.ib [g f 0,I 1] λz=>.ea 3 [y,z] λa0=>.fl a0 0 λ_ a1=>.call 111 [u,a1] λa2=>.il [a2,I 0] λa5=>.AH a5 (.ib [g f 0,I 1] λa7=>.rn [a7]) (.rx 0 [g f 0])) (.rx 0 [g f 0])) (.rx 0 [g f 0])) (lx 0 (λa8=>.fa p 3 λ_ b0=>.fl b0 0 λ_ b1=>.call 171 [b1] λb2=>.fa p 3 λ_ b3=>.op (.EC 0) [b3] λb4=>.store 1 b4 b2 (.loop 5 [g a8 0] (λb5=>.fa p 3 λ_ b6=>.fl b6 0 λ_ b7=>.ln [b7] λb8=>.il [g b5 0,b8] λb9=>.AH b9 (.fa p 3 λ_ c0=>.fl c0 0 λc1 c2=>.fa p 3 λ_ c3=>.fl c3 0 λ_ c4=>.ea 3 [c4,g b5 0] λc5=>.load (some 3) c5 λc6=>.call 118 [c6] λc8=>.ld c1 λc9=>.same c2 c9 (.call 23 [p,c8] λd0=>.ld c1 λd1=>.same c2 d1 (.ea 3 [c2,g b5 0] λd2=>.op (.EC 0) [d2] λd3=>.store 1 d3 d0 (.ia [g b5 0,I 1] λd4=>.rn [d4])))) (.rx 2 [g b5 0])) (lx 2 (λd5=>.Hr 3 p (.rr [.tuple []])) λd5=>.Hr 3 p (.rr [.tuple []])))) λa8=>.Hr 3 p (.rr [.tuple []])))
theorem aAq:GL cx 75 t75:=λ_=>by kernel_rfl
def t76(p q:Aa):IT:=
 .call 35 [p] λa=>.nt [a] λb=>.AH b (.rr [.tuple []]) (.fa p 2 λ_ c=>.call 44 [c] λd=>.ib [d,I 1] λe=>.loop 2 [e] (λf=>.ih [g f 0,I 0] λh=>.AH h (.fa p 2 λ_ j=>.call 116 [j,g f 0] λk=>.cells 4 k λm=>.op (.Bx 1) [q] λn=>.call 36 [a4 m,n] λo=>.AH o (.fa p 2 λ_ s=>.call 170 [s,q] λ_=>.fa p 2 λ_ u=>.call 115 [u,g m 0] λ_=>.rr [g f 0]) (.Bc 172 [g m 1,g m 2] λw=>.AH w (.rr [g f 0]) (.ib [g f 0,I 1] λy=>.rn [y]))) (.rx 0 [g f 0])) (lx 0 (λz=>.rr [.tuple []]) λz=>.rr [.tuple []]))
theorem zQ:DR cx 76 t76:=λ_ _=>by kernel_rfl
def t77(p:Aa):IT:=
 .call 35 [p] λa=>.nt [a] λb=>.AH b (.rr [.tuple []]) (.fa p 4 λ_ c=>.store 1 c (I 7) (.fa p 2 λ_ d=>.call 44 [d] λe=>.ib [e,I 1] λf=>.loop 3 [f] (λh=>.ih [g h 0,I 0] λj=>.AH j (.fa p 2 λ_ k=>.call 116 [k,g h 0] λm=>.cells 4 m λn=>.ie [g h 0,I 0] λo=>.AH o (.BY p 9 λ_ _ s=>.AH s (.fa p 10 λ_ u=>.load (some 4) u λw=>.cells 4 w λy=>.call 173 [p,a4 y,g h 0] λz=>.op (.ext 0) [z] λa0=>.op (.ext 1) [z] λa1=>.AH a1 (.fa p 4 λ_ a2=>.store 1 a2 a0 (.rr [g h 0])) (.ib [g h 0,I 1] λa5=>.rn [a5])) (.call 173 [p,a4 n,g h 0] λa7=>.op (.ext 0) [a7] λa8=>.op (.ext 1) [a7] λb0=>.AH b0 (.fa p 4 λ_ b1=>.store 1 b1 a8 (.rr [g h 0])) (.ib [g h 0,I 1] λb2=>.rn [b2]))) (.call 173 [p,a4 n,g h 0] λb3=>.op (.ext 0) [b3] λb4=>.op (.ext 1) [b3] λb5=>.AH b5 (.fa p 4 λ_ b6=>.store 1 b6 b4 (.rr [g h 0])) (.ib [g h 0,I 1] λb7=>.rn [b7]))) (.rx 0 [g h 0])) (lx 0 (λb8=>.rr [.tuple []]) λb8=>.rr [.tuple []])))
theorem zR:GL cx 77 t77:=λ_=>by kernel_rfl
def t78(p q r:Aa):IT:=
 .cells 12 q λa=>.call 35 [p] λb=>.nt [b] λc=>.AH c (.rr [.tuple []]) (.call 45 [p,r] λd=>.op (.part 0 none) [d] λe=>.iq [e,I 4] λf=>.AH f (.rr [.tuple []]) (.call 45 [p,r] λh=>.op (.part 6 none) [h] λj=>.ln [g a 8] λk=>.loop 4 [j,I 0] (λm=>.il [g m 1,k] λn=>.AH n (.ea 3 [g a 8,g m 1] λo=>.load (some 3) o λs=>.cells 3 s λu=>.call 174 [g m 0,.func (.func 175) [] [.CA [g u 0,g u 1,g u 2]]] λw=>.nt [w] λy=>.AH y (.fl (.CA [g u 0,g u 1,g u 2]) 1 λ_ z=>.fl (.CA [g u 0,g u 1,g u 2]) 2 λ_ a0=>.op (.Bs [I 0,S [],S []] [(1,1),(2,1)]) [z,a0] λa1=>.op (.Bx 3) [a1] λa2=>.FE 3 40 (g m 0) a2 λa5=>.ia [g m 1,I 1] λa7=>.rn [a5,a7]) (.ia [g m 1,I 1] λa8=>.rn [g m 0,a8])) (.rx 0 [g m 0,g m 1])) (lx 0 (λb0=>.BY p 0 λ_ _ b1=>.call 176 [b1,r,g b0 0] λ_=>.rr [.tuple []]) λb0=>.rr [.tuple []])))
theorem zS:Lt cx 78 t78:=λ_ _ _=>by kernel_rfl
def t79(p:Aa):IT:=
 .call 35 [p] λa=>.nt [a] λb=>.AH b (.rr [.tuple []]) (.fa p 2 λ_ c=>.call 137 [c,S aSo] λd=>.il [d,I 0] λe=>.AH e (.rr [.tuple []]) (.fa p 2 λ_ f=>.call 177 [f] λ_=>.fa p 2 λ_ h=>.op (.Bx 1) [S aSo] λj=>.call 83 [h,j] λ_=>.fa p 3 λ_ k=>.call 82 [k] λ_=>.BY p 6 λ_ _ m=>.ln [m] λn=>.ig [n,I 0] λo=>.AH o (.BY p 6 λ_ _ s=>.ib [n,I 1] λu=>.op (.Hq 1 false false true) [s,u] λw=>.call 62 [w] λy=>.fa p 6 λ_ z=>.store 1 z y (.call 77 [p] λ_=>.rr [.tuple []])) (.call 77 [p] λ_=>.rr [.tuple []])))
theorem jC:GL cx 79 t79:=λ_=>by kernel_rfl
def t80(p:Aa):IT:=
 .call 35 [p] λa=>.AH a (.fa p 19 λ_ b=>.store 1 b tt (.rr [.tuple []])) (.rr [.tuple []])
theorem aAr:GL cx 80 t80:=λ_=>by kernel_rfl
def t81(p:Aa):IT:=
 .op (.Tg true) [p,.ptr none] λa=>.AH a (.BY p 0 λ_ _ b=>.op (.Bs [I 0,S [],.slnil] []) [] λc=>.BY p 0 λ_ _ d=>.ln [d] λe=>.call 152 [b,c,e] λf=>.fa p 0 λ_ h=>.store 1 h f (.rr [.tuple []])) (.rr [.tuple []])
theorem aAs:GL cx 81 t81:=λ_=>by kernel_rfl
def t82(p:Aa):IT:=
 .op (.Tg false) [p,.ptr none] λa=>.AH a (.rr [I 0]) (.BY p 0 λ_ _ b=>.ln [b] λc=>.BY p 0 λ_ d e=>.call 149 [p] λf=>.ld d λh=>.same e h (.ib [f,I 1] λj=>.op (.Kk true) [j,I 0] λk=>.op (.Hq 3 false false true) [e,k] λm=>.fa p 0 λ_ n=>.store 1 n m (.BY p 0 λ_ _ o=>.ln [o] λs=>.ib [c,s] λu=>.rr [u])))
theorem aAt:GL cx 82 t82:=λ_=>by kernel_rfl
def t83(p q:Aa):IT:=
 .cells 1 q λa=>.call 178 [p,.func (.func 179) [] [],.func (.func 180) [] [.CA [g a 0]]] λb=>.rr [b]
theorem aAu:DR cx 83 t83:=λ_ _=>by kernel_rfl
def t84(p q r u:Aa):IT:=
 .cells 12 q λa=>.Df 200001 (.call 35 [p] λb=>.nt [b] λc=>.AH c (.rn [tt]) (.il [r,I 0] λd=>.AH d (.rn [tt]) (.ig [r,I 7] λe=>.rn [e]))) (nx (λf=>.AH (g f 0) (.op (.Bs [I 0,I 0,S [],ff] []) [] λh=>.cells 4 h λj=>.rr [a4 j]) (.call 182 [r,g a 8] λk=>.ie [r,I 2] λm=>.Df 100032 (.AH m (.Bc 183 [g a 1] λn=>.rn [n]) (.rn [g a 1])) (nx (λo=>.BY p 0 λ_ s w=>.call 185 [p,u] λy=>.ld s λz=>.same w z (.call 184 [w,y,r,g o 0,k] λa0=>.op (.ext 0) [a0] λa1=>.op (.ext 1) [a0] λa2=>.iq [a2,I 0] λa5=>.AH a5 (.op (.Bs [I 0,I 0,S [],ff] []) [] λa7=>.cells 4 a7 λa8=>.rr [a4 a8]) (.call 147 [r,g o 0,k] λb0=>.op (.Bs [I 0,I 0,S [],ff] [(0,1),(1,1),(2,1),(3,1)]) [a1,r,g o 0,b0] λb1=>.cells 4 b1 λb2=>.rr [a4 b2]))) λo=>.rr [.agg [I 0,I 0,S [],ff]]))) λf=>.rr [.agg [I 0,I 0,S [],ff]])
theorem jD:xV cx 84 t84:=λ_ _ _ _=>by kernel_rfl
def t85(p q:Aa):IT:=
 .cells 12 q λa=>.call 86 [p,uI a,I 1] λb=>.rr [b]
theorem aAv:DR cx 85 t85:=λ_ _=>by kernel_rfl
def t86(p q r:Aa):IT:=
 .cells 12 q λa=>.Bc 186 [r] λb=>.nt [b] λc=>.AH c (.rr [I 0]) (.call 15 [p,I 0] λd=>.op (.ext 0) [d] λe=>.op (.ext 1) [d] λf=>.call 102 [p,uI a,r,e] λh=>.cells 4 h λj=>.call 131 [p,e,g j 0,f] λ_=>.BY p 2 λ_ _ k=>.op (.append 4 40) [.slnil,k] λm=>.op (.Bx 4) [a4 j] λn=>.op (.append 4 40) [m,n] λo=>.fa p 2 λ_ s=>.store 1 s o (.rr [g j 0]))
theorem zT:Lt cx 86 t86:=λ_ _ _=>by kernel_rfl
def t87(p q:Aa):IT:=
 .cells 12 q λa=>.call 85 [p,uI a] λb=>.BY p 3 λ_ _ c=>.op (.Bs [I 0,S [],.slnil] [(0,1),(1,1),(2,1)]) [b,g a 1,g a 8] λd=>.call 187 [c,d] λe=>.fa p 3 λ_ f=>.store 1 f e (.rr [b])
theorem aAw:DR cx 87 t87:=λ_ _=>by kernel_rfl
def t88(p q:Aa):IT:=
 .call 15 [p,I 0] λa=>.op (.ext 0) [a] λb=>.op (.ext 1) [a] λc=>.call 139 [p,b] λd=>.Df 200002 (.iq [d,I 4] λe=>.AH e (.iq [d,I 2] λf=>.rn [f]) (.rn [ff])) (nx (λh=>.AH (g h 0) (.rr [.tuple []]) (.Bc 188 [q] λj=>.nt [j] λk=>.Df 100028 (.AH k (.rn [.int .i32 65533]) (.rn [q])) (nx (λm=>.call 189 [g m 0] λn=>.KR n λo=>.op .Th [o] λs=>.BY p 0 λ_ _ u=>.call 132 [u,b] λw=>.ln [w] λy=>.iq [c,I 0] λz=>.Df 100041 (.AH z (.call 190 [w,c] λa0=>.rn [a0]) (.rn [y])) (nx (λa1=>.Df 200010 (.ig [g a1 0,I 0] λa2=>.AH a2 (.ib [g a1 0,I 1] λa5=>.ea 1 [w,a5] λa7=>.ld a7 λa8=>.call 139 [p,a8] λb0=>.ie [b0,I 5] λb1=>.rn [b1]) (.rn [ff])) (nx (λb2=>.AH (g b2 0) (.BY p 0 λ_ _ b3=>.BY b3 0 λ_ _ b4=>.ib [g a1 0,I 1] λb5=>.ea 1 [w,b5] λb6=>.ld b6 λb7=>.ea 13 [b4,b7] λb8=>.fl b8 7 λ_ b9=>.op (.str .add) [b9,s] λc0=>.ea 13 [b4,b7] λc1=>.op (.EC 7) [c1] λc2=>.store 1 c2 c0 (.rr [.tuple []])) (.BY p 0 λ_ c3 c4=>.op (.Bs [I 0,I 0,.slnil,I 0,I 0,S [],.slnil,S [],S [],S [],ff,I 0,I 0] [(0,1),(7,1)]) [I 5,s] λc5=>.call 192 [p,b] λc7=>.ld c3 λc8=>.same c4 c8 (.call 191 [c4,c7,c5] λd0=>.op (.ext 0) [d0] λd1=>.op (.ext 1) [d0] λ_=>.call 131 [p,b,d1,c] λ_=>.rr [.tuple []]))) λb2=>.rr [.tuple []])) λa1=>.rr [.tuple []])) λm=>.rr [.tuple []]))) λh=>.rr [.tuple []])
theorem YY:DR cx 88 t88:=λ_ _=>by kernel_rfl
def t89(p q r:Aa):IT:=
 .ie [r,I 0] λa=>.Df 100011 (.AH a (.call 15 [p,I 0] λb=>.op (.ext 0) [b] λc=>.op (.ext 1) [b] λd=>.rn [c,d]) (.rn [r,I 0])) (nx (λe=>.call 139 [p,g e 0] λf=>.Df 200004 (.iq [f,I 1] λh=>.AH h (.iq [f,I 2] λj=>.AH j (.iq [f,I 4] λk=>.rn [k]) (.rn [ff])) (.rn [ff])) (nx (λm=>.AH (g m 0) (.rr [.tuple []]) (.BY p 0 λ_ n o=>.op (.Bs [I 0,I 0,.slnil,I 0,I 0,S [],.slnil,S [],S [],S [],ff,I 0,I 0] [(0,1),(7,1)]) [I 6,q] λs=>.call 192 [p,g e 0] λu=>.ld n λw=>.same o w (.call 191 [o,u,s] λy=>.op (.ext 0) [y] λz=>.op (.ext 1) [y] λ_=>.call 131 [p,g e 0,z,g e 1] λ_=>.rr [.tuple []]))) λm=>.rr [.tuple []])) λe=>.rr [.tuple []])
theorem zU:Lt cx 89 t89:=λ_ _ _=>by kernel_rfl
def t90(p q r:Aa):IT:=
 .cells 12 q λa=>.call 85 [p,uI a] λ_=>.fa p 18 λ_ b=>.store 1 b r (.BY p 4 λ_ _ c=>.fa p 5 λ_ d=>.store 1 d c (.fa p 4 λ_ e=>.store 1 e (I 8) (.rr [.tuple []])))
theorem aAx:Lt cx 90 t90:=λ_ _ _=>by kernel_rfl
def t91(p:Aa):IT:=
 .BY p 2 λ_ _ a=>.op (.Bx 1) [S [112]] λb=>.call 193 [a,I 3,b] λc=>.AH c (.BY p 2 λ_ _ d=>.call 194 [d,S [112],ff] λe=>.fa p 2 λ_ f=>.store 1 f e (.BY p 2 λ_ _ h=>.op (.Bx 1) [S [112]] λj=>.call 101 [h,j] λk=>.fa p 2 λ_ m=>.store 1 m k (.rr [.tuple []]))) (.rr [.tuple []])
theorem zV:GL cx 91 t91:=λ_=>by kernel_rfl
def t92(p:Aa):IT:=
 .BY p 3 λ_ _ a=>.ln [a] λb=>.loop 1 [b] (λc=>.ig [g c 0,I 0] λd=>.AH d (.BY p 3 λ_ _ e=>.ib [g c 0,I 1] λf=>.ea 3 [e,f] λh=>.load (some 3) h λj=>.call 195 [p,j] λk=>.nt [k] λm=>.AH m (.ib [g c 0,I 1] λn=>.rn [n]) (.rx 0 [g c 0])) (.rx 0 [g c 0])) (lx 0 (λo=>.BY p 3 λ_ _ s=>.HC 3 48 .slnil s λu=>.loop 4 [g o 0] (λw=>.ln [u] λy=>.il [g w 0,y] λz=>.AH z (.ea 3 [u,g w 0] λa0=>.fl a0 1 λ_ a1=>.ea 3 [u,g w 0] λa2=>.fl a2 2 λ_ a5=>.op (.Bs [I 0,S [],ff,S [],ff,S [],ff,ff,.slnil,ff,S [],.int .i32 0] [(0,1),(1,1),(8,1)]) [I 2,a1,a5] λa7=>.call 85 [p,a7] λa8=>.ea 3 [u,g w 0] λb0=>.op (.EC 0) [b0] λb1=>.store 1 b1 a8 (.ia [g w 0,I 1] λb2=>.rn [b2])) (.rx 2 [g w 0])) (lx 2 (λb3=>.fa p 3 λ_ b4=>.store 1 b4 u (.Hr 3 p (.rr [.tuple []]))) λb3=>.Hr 3 p (.rr [.tuple []]))) λo=>.Hr 3 p (.rr [.tuple []]))
theorem aAy:GL cx 92 t92:=λ_=>by kernel_rfl
def t93(p q:Aa):IT:=
 .BY p 2 λ_ _ a=>.ln [a] λb=>.ib [b,I 1] λc=>.loop 1 [c] (λd=>.ih [g d 0,I 0] λe=>.AH e (.BY p 2 λ_ _ f=>.ea 4 [f,g d 0] λh=>.load (some 4) h λj=>.cells 4 j λk=>.op (.Bx 1) [q] λm=>.call 40 [a4 k,m] λn=>.AH n (.BY p 2 λ_ _ o=>.call 194 [o,q,ff] λs=>.fa p 2 λ_ u=>.store 1 u s (.BY p 2 λ_ _ w=>.call 129 [w,g k 0] λy=>.fa p 2 λ_ z=>.store 1 z y (.rr [g d 0]))) (.Bc 196 [g k 1,g k 2] λa0=>.AH a0 (.rr [g d 0]) (.ib [g d 0,I 1] λa1=>.rn [a1]))) (.rx 0 [g d 0])) (lx 0 (λa2=>.rr [.tuple []]) λa2=>.rr [.tuple []])
theorem aAz:DR cx 93 t93:=λ_ _=>by kernel_rfl
def t94(p:Aa):IT:=
 .BY p 2 λ_ _ a=>.ln [a] λb=>.ib [b,I 1] λc=>.loop 1 [c] (λd=>.ih [g d 0,I 0] λe=>.AH e (.BY p 2 λ_ _ f=>.ea 4 [f,g d 0] λh=>.load (some 4) h λj=>.ie [g d 0,I 0] λk=>.cells 4 j λm=>.AH k (.BY p 9 λ_ _ n=>.AH n (.fa p 10 λ_ o=>.load (some 4) o λs=>.cells 4 s λu=>.call 197 [p,a4 u,g d 0,k] λw=>.op (.ext 0) [w] λy=>.op (.ext 1) [w] λz=>.AH z (.fa p 4 λ_ a0=>.store 1 a0 y (.rr [g d 0])) (.ib [g d 0,I 1] λa1=>.rn [a1])) (.call 197 [p,a4 m,g d 0,k] λa2=>.op (.ext 0) [a2] λa5=>.op (.ext 1) [a2] λa7=>.AH a7 (.fa p 4 λ_ a8=>.store 1 a8 a5 (.rr [g d 0])) (.ib [g d 0,I 1] λb0=>.rn [b0]))) (.call 197 [p,a4 m,g d 0,k] λb1=>.op (.ext 0) [b1] λb2=>.op (.ext 1) [b1] λb3=>.AH b3 (.fa p 4 λ_ b4=>.store 1 b4 b2 (.rr [g d 0])) (.ib [g d 0,I 1] λb5=>.rn [b5]))) (.rx 0 [g d 0])) (lx 0 (λb6=>.fa p 4 λ_ b7=>.store 1 b7 (I 7) (.rr [.tuple []])) λb6=>.rr [.tuple []])
theorem aAA:GL cx 94 t94:=λ_=>by kernel_rfl
def t95(p q r:Aa):IT:=
 .cells 12 q λa=>.call 139 [p,r] λb=>.iq [b,I 4] λc=>.AH c (.rr [.tuple []]) (.BY p 0 λ_ _ d=>.BY d 0 λ_ _ e=>.ea 13 [e,r] λf=>.fl f 6 λ_ h=>.op (.append 3 40) [.slnil,h] λj=>.loop 4 [j,I 0] (λk=>.ln [g a 8] λm=>.il [g k 1,m] λn=>.AH n (.ea 3 [g a 8,g k 1] λo=>.fl o 1 λ_ s=>.ea 3 [g a 8,g k 1] λu=>.fl u 2 λ_ w=>.op (.Bs [I 0,S [],S []] [(1,1),(2,1)]) [s,w] λy=>.op (.Bx 3) [y] λz=>.op (.append 3 40) [g k 0,z] λa0=>.ia [g k 1,I 1] λa1=>.rn [a0,a1]) (.rx 0 [g k 0,g k 1])) (lx 0 (λa2=>.BY p 0 λ_ _ a5=>.call 198 [a5,r,g a2 0] λ_=>.rr [.tuple []]) λa2=>.rr [.tuple []]))
theorem zW:Lt cx 95 t95:=λ_ _ _=>by kernel_rfl
def t96(p:Aa):IT:=
 .BY p 2 λ_ _ a=>.call 141 [a,S aSo] λb=>.il [b,I 0] λc=>.AH c (.rr [.tuple []]) (.BY p 2 λ_ _ d=>.call 194 [d,S [],tt] λe=>.fa p 2 λ_ f=>.store 1 f e (.BY p 2 λ_ _ h=>.op (.Bx 1) [S aSo] λj=>.call 101 [h,j] λk=>.fa p 2 λ_ m=>.store 1 m k (.BY p 3 λ_ _ n=>.call 100 [n] λo=>.fa p 3 λ_ s=>.store 1 s o (.BY p 6 λ_ _ u=>.ln [u] λw=>.ig [w,I 0] λy=>.AH y (.BY p 6 λ_ _ z=>.BY p 6 λ_ _ a0=>.ln [a0] λa1=>.ib [a1,I 1] λa2=>.op (.Hq 1 false false true) [z,a2] λa5=>.op (.append 1 8) [.slnil,a5] λa7=>.fa p 6 λ_ a8=>.store 1 a8 a7 (.call 94 [p] λ_=>.rr [.tuple []])) (.call 94 [p] λ_=>.rr [.tuple []])))))
theorem jE:GL cx 96 t96:=λ_=>by kernel_rfl
def t97(p:Aa):IT:=
 .fa p 19 λ_ a=>.store 1 a tt (.rr [.tuple []])
theorem aAB:GL cx 97 t97:=λ_=>by kernel_rfl
def t98(p q r:Aa):IT:=
 .cells 3 q λa=>.il [r,I 0] λb=>.AH b (.ln [p] λc=>.ig [I 0,c] λd=>.AH d (.ln [p] λe=>.op (.Hq 3 false false true) [p,e] λf=>.op (.append 3 48) [.slnil,f] λh=>.call 199 [a3 a] λj=>.op (.Bx 3) [j] λk=>.op (.append 3 48) [h,k] λm=>.op (.Hq 3 false true false) [p,e] λn=>.op (.append 3 48) [m,n] λo=>.rr [o]) (.op (.Hq 3 false false true) [p,I 0] λs=>.op (.append 3 48) [.slnil,s] λu=>.call 199 [a3 a] λw=>.op (.Bx 3) [w] λy=>.op (.append 3 48) [u,y] λz=>.op (.Hq 3 false true false) [p,I 0] λa0=>.op (.append 3 48) [z,a0] λa1=>.rr [a1])) (.ln [p] λa2=>.ig [r,a2] λa5=>.AH a5 (.ln [p] λa7=>.op (.Hq 3 false false true) [p,a7] λa8=>.op (.append 3 48) [.slnil,a8] λb0=>.call 199 [a3 a] λb1=>.op (.Bx 3) [b1] λb2=>.op (.append 3 48) [b0,b2] λb3=>.op (.Hq 3 false true false) [p,a7] λb4=>.op (.append 3 48) [b3,b4] λb5=>.rr [b5]) (.op (.Hq 3 false false true) [p,r] λb6=>.op (.append 3 48) [.slnil,b6] λb7=>.call 199 [a3 a] λb8=>.op (.Bx 3) [b8] λb9=>.op (.append 3 48) [b7,b9] λc1=>.op (.Hq 3 false true false) [p,r] λc2=>.op (.append 3 48) [c1,c2] λc3=>.rr [c3]))
theorem aAC:Lt cx 98 t98:=λ_ _ _=>by kernel_rfl
def t99(p:Aa):IT:=
 .BY p 2 λ_ _ a=>.ln [a] λb=>.il [b,I 2] λc=>.AH c (.op (.Bs [I 0,I 0,S [],ff] []) [] λd=>.cells 4 d λe=>.rr [a4 e]) (.call 18 [p] λf=>.cells 4 f λh=>.BY p 2 λ_ _ j=>.call 42 [j] λk=>.fa p 2 λ_ m=>.store 1 m k (.cells 4 (a4 h) λn=>.rr [a4 n]))
theorem zX:GL cx 99 t99:=λ_=>by kernel_rfl
def aEJ(p:Aa):IT:=
 .call 200 [p] λa=>.ib [a,I 1] λb=>.il [b,I 0] λc=>.AH c (.op (.Hq 3 false false true) [p,I 0] λd=>.op (.append 3 48) [.slnil,d] λe=>.rr [e]) (.op (.Hq 3 false false true) [p,b] λf=>.op (.append 3 48) [.slnil,f] λh=>.rr [h])
theorem jt:GL cx 100 aEJ:=λ_=>by kernel_rfl
def aEK(p q:Aa):IT:=
 .ln [p] λa=>.ib [a,I 1] λb=>.loop 2 [.slnil,b] (λc=>.ih [g c 1,I 0] λd=>.AH d (.ea 4 [p,g c 1] λe=>.load (some 4) e λf=>.call 40 [f,q] λh=>.AH h (.call 123 [p,g c 1] λj=>.rr [j,g c 1]) (.ib [g c 1,I 1] λk=>.rn [g c 0,k])) (.rx 0 [g c 0,g c 1])) (lx 0 (λm=>.call 123 [p,I 1] λn=>.KR n λo=>.rr [o]) λm=>.KR (g m 0) λs=>.rr [s])
theorem ju:DR cx 101 aEK:=λ_ _=>by kernel_rfl
def aAD(p q r u:Aa):IT:=
 .cells 12 q λa=>.Bc 186 [r] λb=>.nt [b] λc=>.AH c (.op (.Bs [I 0,I 0,S [],ff] []) [] λd=>.cells 4 d λe=>.rr [a4 e]) (.call 201 [r,g a 8] λf=>.ie [r,I 2] λh=>.Df 100024 (.AH h (.Bc 202 [g a 1] λj=>.rn [j]) (.rn [g a 1])) (nx (λk=>.call 47 [p,u,S aSo] λm=>.Df 100029 (.AH m (.BY p 0 λ_ _ n=>.BY n 0 λ_ _ o=>.ea 13 [o,u] λs=>.fl s 11 λ_ w=>.rn [w]) (.rn [u])) (nx (λy=>.BY p 0 λ_ z a0=>.call 192 [p,g y 0] λa1=>.ld z λa2=>.same a0 a2 (.call 165 [a0,a1,r,g k 0,f] λa5=>.op (.ext 0) [a5] λa7=>.op (.ext 1) [a5] λ_=>.call 166 [r,g k 0,f] λa8=>.op (.Bs [I 0,I 0,S [],ff] [(0,1),(1,1),(2,1),(3,1)]) [a7,r,g k 0,a8] λb0=>.cells 4 b0 λb1=>.rr [a4 b1])) λy=>.rr [.agg [I 0,I 0,S [],ff]])) λk=>.rr [.agg [I 0,I 0,S [],ff]]))
theorem mH:xV cx 102 aAD:=λ_ _ _ _=>by kernel_rfl
def aEL(p q:Aa):IT:=
 .ln [p] λa=>.ln [q] λb=>.iq [a,b] λc=>.AH c (.rr [ff]) (.loop 4 [ff,I 0] (λd=>.ln [p] λe=>.il [g d 1,e] λf=>.AH f (.ea 3 [p,g d 1] λh=>.fl h 0 λ_ j=>.ea 3 [q,g d 1] λk=>.fl k 0 λ_ m=>.iq [j,m] λn=>.AH n (.rr [ff,g d 1]) (.ea 3 [p,g d 1] λo=>.fl o 1 λ_ s=>.ea 3 [q,g d 1] λu=>.fl u 1 λ_ w=>.op (.str .neq) [s,w] λy=>.AH y (.rr [ff,g d 1]) (.ea 3 [p,g d 1] λz=>.fl z 2 λ_ a0=>.ln [a0] λa1=>.ea 3 [q,g d 1] λa2=>.fl a2 2 λ_ a5=>.ln [a5] λa7=>.iq [a1,a7] λa8=>.AH a8 (.rr [ff,g d 1]) (.loop 9 [g d 0,I 0] (λb0=>.ea 3 [p,g d 1] λb1=>.fl b1 2 λ_ b2=>.ln [b2] λb3=>.il [g b0 1,b3] λb4=>.AH b4 (.ea 3 [p,g d 1] λb5=>.fl b5 2 λ_ b6=>.ea 3 [b6,g b0 1] λb7=>.load (some 3) b7 λb8=>.ea 3 [q,g d 1] λb9=>.fl b9 2 λ_ c0=>.ea 3 [c0,g b0 1] λc1=>.load (some 3) c1 λc2=>.op (.geq true [.i,.s,.s]) [b8,c2] λc4=>.AH c4 (.rr [ff,g b0 1]) (.ia [g b0 1,I 1] λc5=>.rn [g b0 0,c5])) (.rx 2 [g b0 0,g b0 1])) (λx c6=>match x with| .normal=>.fail| .exit i=>if i=2 then .ia [g d 1,I 1] λc7=>.rn [g c6 0,c7] else if i=1 then .ia [g d 1,I 1] λc8=>.rn [g c6 0,c8] else .ret (.exit i) [g c6 0,g d 1]| .ret=>.rr [g c6 0,g d 1]))))) (.rx 0 [g d 0,g d 1])) (lx 0 (λc9=>.rr [tt]) λc9=>.rr [g c9 0]))
theorem jv:DR cx 103 aEL:=λ_ _=>by kernel_rfl
def aEM(p:Aa):IT:=
 .op (.Tg false) [p,.ptr none] λa=>.AH a (.rr [I 0]) (.BY p 0 λ_ _ b=>.ln [b] λc=>.rr [c])
theorem jw:GL cx 104 aEM:=λ_=>by kernel_rfl
def aEN(p:Aa):IT:=
 .BY p 0 λ_ _ a=>.ln [a] λb=>.ib [b,I 1] λc=>.rr [c]
theorem jx:GL cx 105 aEN:=λ_=>by kernel_rfl
def aEO(p q:Aa):IT:=
 .ln [p] λa=>.ln [q] λb=>.iq [a,b] λc=>.AH c (.rr [ff]) (.loop 4 [ff,I 0] (λd=>.ln [p] λe=>.il [g d 1,e] λf=>.AH f (.ea 13 [p,g d 1] λh=>.load (some 13) h λj=>.ea 13 [q,g d 1] λk=>.load (some 13) k λm=>.call 203 [j,m] λn=>.nt [n] λo=>.AH o (.rr [ff,g d 1]) (.ia [g d 1,I 1] λs=>.rn [g d 0,s])) (.rx 0 [g d 0,g d 1])) (lx 0 (λu=>.rr [tt]) λu=>.rr [g u 0]))
theorem jy:DR cx 106 aEO:=λ_ _=>by kernel_rfl
def aEP(p:Aa):IT:=
 .op (.Tg false) [p,.ptr none] λa=>.AH a (.rr [.slnil]) (.BY p 0 λ_ _ b=>.ln [b] λc=>.loop 5 [.slnil,I 0] (λd=>.il [g d 1,c] λe=>.AH e (.BY p 0 λ_ _ f=>.ea 13 [f,g d 1] λh=>.call 204 [h] λj=>.op (.Bx 13) [j] λk=>.op (.append 13 168) [g d 0,k] λm=>.ia [g d 1,I 1] λn=>.rn [m,n]) (.rx 0 [g d 0,g d 1])) (lx 0 (λo=>.rr [g o 0]) λo=>.rr [.slnil]))
theorem jz:GL cx 107 aEP:=λ_=>by kernel_rfl
def aEQ(p:Aa):IT:=
 .loop 3 [.slnil,I 1] (λa=>.BY p 0 λ_ _ b=>.ln [b] λc=>.il [g a 1,c] λd=>.AH d (.BY p 0 λ_ _ e=>.ea 13 [e,g a 1] λf=>.load (some 13) f λh=>.call 205 [h] λj=>.op (.Bx 13) [j] λk=>.op (.append 13 168) [g a 0,k] λm=>.ia [g a 1,I 1] λn=>.rn [m,n]) (.rx 0 [g a 0,g a 1])) (lx 0 (λo=>.rr [g o 0]) λo=>.rr [.slnil])
theorem j_:GL cx 108 aEQ:=λ_=>by kernel_rfl
def t109(p q:Aa):IT:=
 .call 206 [p,q] λa=>.ih [a,I 0] λb=>.rr [b]
theorem mI:DR cx 109 t109:=λ_ _=>by kernel_rfl
def aAE(p q:Aa):IT:=
 .op (.Tg false) [p,.ptr none] λa=>.AH a (.rr [I (-1)]) (.BY p 0 λ_ _ b=>.ln [b] λc=>.ib [c,I 1] λd=>.loop 4 [I 0,d] (λe=>.ih [g e 1,I 0] λf=>.AH f (.BY p 0 λ_ _ h=>.ea 3 [h,g e 1] λj=>.fl j 0 λ_ k=>.iq [k,I 0] λm=>.AH m (.BY p 0 λ_ _ n=>.ea 3 [n,g e 1] λo=>.fl o 1 λ_ s=>.se [s,q] λu=>.AH u (.rr [g e 1,g e 1]) (.ib [g e 1,I 1] λw=>.rn [g e 0,w])) (.rx 0 [g e 0,g e 1])) (.rx 0 [g e 0,g e 1])) (lx 0 (λy=>.rr [I (-1)]) λy=>.rr [g y 0]))
theorem mJ:DR cx 110 aAE:=λ_ _=>by kernel_rfl
def aAF(p q:Aa):IT:=
 .cells 1 q λa=>.call 207 [p,.func (.func 208) [] [.CA [g a 0]]] λb=>.rr [b]
theorem mK:DR cx 111 aAF:=λ_ _=>by kernel_rfl
def aAG(p q r:Aa):IT:=
 .fa q 3 λ_ a=>.fl a 0 λ_ b=>.call 171 [b] λc=>.ia [r,I 1] λd=>.call 209 [c,r,d] λe=>.fa q 3 λ_ f=>.op (.EC 0) [f] λh=>.store 1 h e (.BY p 3 λ_ _ j=>.il [r,j] λk=>.AH k (.BY p 3 λ_ _ m=>.ib [m,I 1] λn=>.fa p 3 λ_ o=>.store 1 o n (.BY p 4 λ_ _ s=>.il [r,s] λu=>.AH u (.BY p 4 λ_ _ w=>.ib [w,I 1] λy=>.fa p 4 λ_ z=>.store 1 z y (.Hr 3 q (.rr [.tuple []]))) (.Hr 3 q (.rr [.tuple []])))) (.BY p 4 λ_ _ a0=>.il [r,a0] λa1=>.AH a1 (.BY p 4 λ_ _ a2=>.ib [a2,I 1] λa5=>.fa p 4 λ_ a7=>.store 1 a7 a5 (.Hr 3 q (.rr [.tuple []]))) (.Hr 3 q (.rr [.tuple []]))))
theorem mL:Lt cx 112 aAG:=λ_ _ _=>by kernel_rfl
def aAH(p q r:Aa):IT:=
 .cells 1 r λa=>.call 210 [p,q,.func (.func 211) [] [.CA [g a 0]]] λb=>.rr [b]
theorem mM:Lt cx 113 aAH:=λ_ _ _=>by kernel_rfl
def aAI(p q:Aa):IT:=
 .call 111 [p,q] λa=>.ia [a,I 1] λb=>.loop 3 [I 0,b] (λc=>.ih [a,I 0] λd=>.AH d (.call 44 [p] λe=>.il [g c 1,e] λf=>.AH f (.BY p 0 λ_ _ h=>.ea 4 [h,g c 1] λj=>.fl j 1 λ_ k=>.BY p 0 λ_ _ m=>.ea 4 [m,g c 1] λn=>.fl n 2 λ_ o=>.Bc 172 [k,o] λs=>.AH s (.rr [g c 1,g c 1]) (.ia [g c 1,I 1] λu=>.rn [g c 0,u])) (.rx 0 [g c 0,g c 1])) (.rx 0 [g c 0,g c 1])) (lx 0 (λw=>.rr [I (-1)]) λw=>.rr [g w 0])
theorem mN:DR cx 114 aAI:=λ_ _=>by kernel_rfl
def ka(p q:Aa):IT:=
 .cells 1 q λa=>.call 111 [p,g a 0] λb=>.il [b,I 0] λc=>.AH c (.rr [I 0]) (.call 178 [p,.func (.func 179) [] [],.func (.func 212) [] [.CA [g a 0]]] λd=>.rr [d])
theorem YZ:DR cx 115 ka:=λ_ _=>by kernel_rfl
def aAJ(p q:Aa):IT:=
 .il [q,I 0] λa=>.AH a (.op (.Bs [I 0,I 0,S [],ff] []) [] λb=>.cells 4 b λc=>.rr [a4 c]) (.call 44 [p] λd=>.ih [q,d] λe=>.AH e (.op (.Bs [I 0,I 0,S [],ff] []) [] λf=>.cells 4 f λh=>.rr [a4 h]) (.BY p 0 λ_ _ j=>.ea 4 [j,q] λk=>.load (some 4) k λm=>.cells 4 m λn=>.rr [a4 n]))
theorem mO:DR cx 116 aAJ:=λ_ _=>by kernel_rfl
def aAK(p q r u:Aa):IT:=
 .ib [u,I 1] λa=>.loop 2 [I 0,a] (λb=>.ig [g b 1,r] λc=>.AH c (.fa p 2 λ_ d=>.call 116 [d,g b 1] λe=>.cells 4 e λf=>.ia [g b 0,I 1] λh=>.fa p 3 λ_ j=>.call 37 [j,g f 0] λk=>.Df 200007 (.ig [h,I 3] λm=>.AH m (.ih [k,I 0] λn=>.rn [n]) (.rn [ff])) (λx o=>match x with| .normal=>.Df 100039 (.AH (g o 0) (.call 112 [q,p,k] λ_=>.fa p 3 λ_ s=>.call 37 [s,g f 0] λw=>.rn [w]) (.rn [k])) (λx y=>match x with| .normal=>.il [g y 0,I 0] λz=>.AH z (.fa p 2 λ_ a0=>.call 121 [a0,g f 0] λ_=>.ib [g b 1,I 1] λa1=>.rn [h,a1]) (.fa p 3 λ_ a2=>.fl a2 0 λ_ a5=>.ea 3 [a5,g y 0] λa7=>.load (some 3) a7 λa8=>.cells 3 a8 λb0=>.fa q 5 λ_ b1=>.fl b1 0 λb2 b3=>.call 118 [a3 b0] λb4=>.ld b2 λb5=>.same b3 b5 (.call 84 [p,b4,I 1,b3] λb6=>.cells 4 b6 λb7=>.fa p 2 λ_ b8=>.call 213 [b8,g f 0,a4 b7] λ_=>.fa p 3 λ_ b9=>.op (.Bs [I 0,S [],.slnil] [(0,1),(1,1),(2,1)]) [g b7 0,g b0 1,g b0 2] λc0=>.call 214 [b9,g f 0,c0] λ_=>.BY q 13 λ_ _ c2=>.fa q 9 λ_ c3=>.fl c3 0 λ_ c4=>.ie [c2,c4] λc5=>.Df 100104 (.AH c5 (.ia [g y 0,I 1] λc7=>.fa q 4 λ_ c8=>.store 1 c8 c7 (.rn [])) (.rn [])) (λx _=>match x with| .normal=>.BY q 13 λ_ _ c9=>.call 61 [p,c9,g b7 0,I 0] λ_=>.fa q 13 λ_ d0=>.store 1 d0 (g b7 0) (.ib [g b 1,I 1] λd1=>.rn [h,d1])| .exit i=>if i=1 then .ib [g b 1,I 1] λd2=>.rn [h,d2] else .ret (.exit i) [h,g b 1]| .ret=>.rr [h,g b 1])))| .exit i=>if i=1 then .ib [g b 1,I 1] λd3=>.rn [h,d3] else .ret (.exit i) [h,g b 1]| .ret=>.rr [h,g b 1])| .exit i=>if i=1 then .ib [g b 1,I 1] λd4=>.rn [h,d4] else .ret (.exit i) [h,g b 1]| .ret=>.rr [h,g b 1])) (.rx 0 [g b 0,g b 1])) (lx 0 (λd5=>.rr [.tuple []]) λd5=>.rr [.tuple []])
theorem mP:xV cx 117 aAK:=λ_ _ _ _=>by kernel_rfl
def aAL(p:Aa):IT:=
 .cells 3 p λa=>.op (.Bs [I 0,S [],ff,S [],ff,S [],ff,ff,.slnil,ff,S [],.int .i32 0] [(0,1),(1,1),(8,1)]) [I 2,g a 1,g a 2] λb=>.cells 12 b λc=>.rr [uI c]
theorem mQ:GL cx 118 aAL:=λ_=>by kernel_rfl
def ke(p q:Aa):IT:=
 .call 64 [p,q] λa=>.nt [a] λb=>.AH b (.rr [.slnil]) (.call 145 [p,q] λc=>.fa c 0 λ_ d=>.fl d 2 λ_ e=>.call 215 [e] λf=>.rr [f])
theorem Y0:DR cx 119 ke:=λ_ _=>by kernel_rfl
def aAM(p q r:Aa):IT:=
 .cells 3 q λa=>.op (.Tg true) [p,.ptr none] λb=>.AH b (.BY p 0 λ_ c d=>.op (.Kk true) [r,I 0] λe=>.BY p 0 λ_ f h=>.ln [h] λj=>.op (.Kk false) [e,j] λk=>.call 153 [a3 a] λm=>.ld f λn=>.same h n (.ld c λo=>.same d o (.call 152 [d,m,k] λs=>.fa p 0 λ_ u=>.store 1 u s (.rr [.tuple []])))) (.rr [.tuple []])
theorem mR:Lt cx 120 aAM:=λ_ _ _=>by kernel_rfl
def kf(p q:Aa):IT:=
 .call 111 [p,q] λa=>.il [a,I 1] λb=>.AH b (.rr [ff]) (.BY p 0 λ_ _ c=>.call 216 [c,a] λd=>.fa p 0 λ_ e=>.store 1 e d (.rr [tt]))
theorem Y1:DR cx 121 kf:=λ_ _=>by kernel_rfl
def aAN(p q r:Aa):IT:=
 .cells 4 q λa=>.op (.Tg true) [p,.ptr none] λb=>.AH b (.BY p 0 λ_ _ c=>.op (.Kk true) [r,I 1] λd=>.BY p 0 λ_ _ e=>.ln [e] λf=>.op (.Kk false) [d,f] λh=>.call 217 [c,a4 a,h] λj=>.fa p 0 λ_ k=>.store 1 k j (.rr [.tuple []])) (.rr [.tuple []])
theorem mS:Lt cx 122 aAN:=λ_ _ _=>by kernel_rfl
def aER(p q:Aa):IT:=
 .il [q,I 1] λa=>.AH a (.ln [p] λb=>.ig [I 1,b] λc=>.AH c (.ln [p] λd=>.op (.Hq 4 false false true) [p,d] λe=>.HC 4 40 .slnil e λf=>.rr [f]) (.op (.Hq 4 false false true) [p,I 1] λh=>.HC 4 40 .slnil h λj=>.rr [j])) (.ln [p] λk=>.ig [q,k] λm=>.AH m (.ln [p] λn=>.op (.Hq 4 false false true) [p,n] λo=>.HC 4 40 .slnil o λs=>.rr [s]) (.op (.Hq 4 false false true) [p,q] λu=>.HC 4 40 .slnil u λw=>.rr [w]))
theorem kg:DR cx 123 aER:=λ_ _=>by kernel_rfl
def aES(p q:Aa):IT:=
 .call 200 [p] λa=>.loop 3 [I (-1),a] (λb=>.ln [p] λc=>.il [g b 1,c] λd=>.AH d (.ea 3 [p,g b 1] λe=>.fl e 1 λ_ f=>.se [f,q] λh=>.AH h (.ia [g b 1,I 1] λj=>.rn [g b 1,j]) (.ia [g b 1,I 1] λk=>.rn [g b 0,k])) (.rx 0 [g b 0,g b 1])) (lx 0 (λm=>.rr [g m 0]) λm=>.rr [I 0])
theorem kh:DR cx 124 aES:=λ_ _=>by kernel_rfl
def aET(p q:Aa):IT:=
 .loop 3 [I (-1),I 0] (λa=>.ln [p] λb=>.il [g a 1,b] λc=>.AH c (.ea 4 [p,g a 1] λd=>.fl d 0 λ_ e=>.ie [e,q] λf=>.AH f (.ia [g a 1,I 1] λh=>.rn [g a 1,h]) (.ia [g a 1,I 1] λj=>.rn [g a 0,j])) (.rx 0 [g a 0,g a 1])) (lx 0 (λk=>.rr [g k 0]) λk=>.rr [I 0])
theorem ki:DR cx 125 aET:=λ_ _=>by kernel_rfl
def aAO(p q:Aa):IT:=
 .BY p 3 λ_ _ a=>.call 41 [a,q] λb=>.ih [b,I 0] λc=>.AH c (.BY p 3 λ_ _ d=>.call 218 [d,b] λe=>.fa p 3 λ_ f=>.store 1 f e (.rr [.tuple []])) (.rr [.tuple []])
theorem mT:DR cx 126 aAO:=λ_ _=>by kernel_rfl
def t127(p q r:Aa):IT:=
 .call 125 [p,r] λa=>.ih [a,I 0] λb=>.AH b (.call 219 [p,a,q] λc=>.rr [c]) (.rr [ff])
theorem kj:Lt cx 127 t127:=λ_ _ _=>by kernel_rfl
def aEU(p q:Aa):IT:=
 .call 125 [p,q] λa=>.il [a,I 0] λb=>.AH b (.rr [I (-1)]) (.ia [a,I 1] λc=>.loop 5 [I 0,c] (λd=>.ln [p] λe=>.il [g d 1,e] λf=>.AH f (.ea 4 [p,g d 1] λh=>.fl h 1 λ_ j=>.ea 4 [p,g d 1] λk=>.fl k 2 λ_ m=>.Bc 196 [j,m] λn=>.AH n (.rr [g d 1,g d 1]) (.ia [g d 1,I 1] λo=>.rn [g d 0,o])) (.rx 0 [g d 0,g d 1])) (lx 0 (λs=>.rr [I (-1)]) λs=>.rr [g s 0]))
theorem kq:DR cx 128 aEU:=λ_ _=>by kernel_rfl
def aAP(p q:Aa):IT:=
 .call 125 [p,q] λa=>.il [a,I 0] λb=>.AH b (.ln [p] λc=>.call 123 [p,c] λd=>.KR d λe=>.rr [e]) (.call 123 [p,a] λf=>.KR f λh=>.rr [h])
theorem mU:DR cx 129 aAP:=λ_ _=>by kernel_rfl
def aEV(p q r u w:Aa):IT:=
 .BY p 2 λ_ _ a=>.ea 4 [a,u] λb=>.fl b 0 λ_ c=>.ib [u,I 1] λd=>.loop 4 [c,q,d] (λe=>.ig [g e 2,r] λf=>.AH f (.BY p 2 λ_ _ h=>.ea 4 [h,g e 2] λj=>.load (some 4) j λk=>.cells 4 k λm=>.BY p 3 λ_ _ n=>.call 41 [n,g m 0] λo=>.Df 200008 (.ib [u,g e 2] λs=>.ig [s,I 3] λy=>.AH y (.ih [o,I 0] λz=>.rn [z]) (.rn [ff])) (λx a0=>match x with| .normal=>.Df 100058 (.AH (g a0 0) (.BY p 3 λ_ _ a1=>.call 218 [a1,o] λa2=>.fa p 3 λ_ a5=>.store 1 a5 a2 (.il [o,g e 1] λa7=>.Df 100070 (.AH a7 (.ib [g e 1,I 1] λa8=>.rn [a8]) (.rn [g e 1])) (λx b0=>match x with| .normal=>.rn [g b0 0,I (-1)]| .exit i=>.ret (.exit i) [g b0 0,o]| .ret=>.rr [g b0 0,o]))) (.rn [g e 1,o])) (λx b1=>match x with| .normal=>.il [g b1 1,I 0] λb2=>.AH b2 (.BY p 2 λ_ _ b3=>.op (.Hq 4 false false true) [b3,g e 2] λb4=>.op (.append 4 40) [.slnil,b4] λb5=>.BY p 2 λ_ _ b6=>.ia [g e 2,I 1] λb7=>.op (.Hq 4 false true false) [b6,b7] λb8=>.op (.append 4 40) [b5,b8] λb9=>.fa p 2 λ_ c0=>.store 1 c0 b9 (.ib [g e 2,I 1] λc1=>.rn [g e 0,g b1 0,c1])) (.BY p 3 λ_ _ c2=>.ea 3 [c2,g b1 1] λc3=>.load (some 3) c3 λc4=>.cells 3 c4 λc5=>.op (.Bs [I 0,S [],ff,S [],ff,S [],ff,ff,.slnil,ff,S [],.int .i32 0] [(0,1),(1,1),(8,1)]) [I 2,g c5 1,g c5 2] λc6=>.call 102 [p,c6,I 1,w] λc8=>.cells 4 c8 λc9=>.BY p 2 λ_ _ d0=>.op (.Hq 4 false false true) [d0,g e 2] λd1=>.op (.append 4 40) [.slnil,d1] λd2=>.op (.Bx 4) [a4 c9] λd3=>.op (.append 4 40) [d2,d3] λd4=>.BY p 2 λ_ _ d5=>.ia [g e 2,I 1] λd6=>.op (.Hq 4 false true false) [d5,d6] λd7=>.op (.append 4 40) [d4,d7] λd8=>.fa p 2 λ_ d9=>.store 1 d9 d8 (.cells 1 (g c9 0) λe0=>.BY p 3 λ_ _ e1=>.call 218 [e1,g b1 1] λe2=>.call 98 [e2,.agg [g e0 0,g c5 1,g c5 2],g b1 1] λe3=>.fa p 3 λ_ e4=>.store 1 e4 e3 (.ie [g e 0,c] λe5=>.Df 100146 (.AH e5 (.ia [g b1 1,I 1] λe6=>.rn [e6]) (.rn [g b1 0])) (λx e7=>match x with| .normal=>.BY p 0 λ_ _ e8=>.call 133 [e8,g c9 0,g e 0,I 0] λ_=>.ib [g e 2,I 1] λe9=>.rn [g c9 0,g e7 0,e9]| .exit i=>if i=1 then .ib [g e 2,I 1] λf0=>.rn [g e 0,g e7 0,f0] else .ret (.exit i) [g e 0,g e7 0,g e 2]| .ret=>.rr [g e 0,g e7 0,g e 2]))))| .exit i=>if i=1 then .ib [g e 2,I 1] λf1=>.rn [g e 0,g b1 0,f1] else .ret (.exit i) [g e 0,g b1 0,g e 2]| .ret=>.rr [g e 0,g b1 0,g e 2])| .exit i=>if i=1 then .ib [g e 2,I 1] λf2=>.rn [g e 0,g e 1,f2] else .ret (.exit i) [g e 0,g e 1,g e 2]| .ret=>.rr [g e 0,g e 1,g e 2])) (.rx 0 [g e 0,g e 1,g e 2])) (lx 0 (λf3=>.rr [.tuple [g f3 0,g f3 1]]) λf3=>.rr [.tuple [I 0,I 0]])
theorem ku:Tq5 cx 130 aEV:=λ_ _ _ _ _=>by kernel_rfl
def kx(p q r u:Aa):IT:=
 .call 139 [p,q] λa=>.ie [a,I 1] λb=>.AH b (.call 139 [p,r] λc=>.ie [c,I 4] λd=>.AH d (.BY p 0 λ_ _ e=>.call 132 [e,q] λf=>.loop 3 [I 0] (λh=>.ln [f] λj=>.il [g h 0,j] λk=>.AH k (.ea 1 [f,g h 0] λm=>.ld m λn=>.call 139 [p,n] λo=>.ie [o,I 4] λs=>.AH s (.rr [g h 0]) (.ia [g h 0,I 1] λw=>.rn [w])) (.rx 0 [g h 0])) (lx 0 (λy=>.BY p 0 λ_ _ z=>.call 133 [z,q,r,u] λ_=>.rr [.tuple []]) λy=>.rr [.tuple []])) (.BY p 0 λ_ _ a0=>.call 133 [a0,q,r,u] λ_=>.rr [.tuple []])) (.BY p 0 λ_ _ a1=>.call 133 [a1,q,r,u] λ_=>.rr [.tuple []])
theorem Y2:xV cx 131 kx:=λ_ _ _ _=>by kernel_rfl
def aAQ(p q:Aa):IT:=
 .call 220 [p,q] λa=>.nt [a] λb=>.AH b (.rr [.slnil]) (.BY p 0 λ_ _ c=>.ea 13 [c,q] λd=>.fl d 2 λ_ e=>.op (.append 1 8) [.slnil,e] λf=>.rr [f])
theorem mV:DR cx 132 aAQ:=λ_ _=>by kernel_rfl
def aAR(p q r u:Aa):IT:=
 .call 221 [p,q,r,u] λa=>.iq [a,I 0] λb=>.AH b (.rr [a]) (.call 222 [p,r] λ_=>.loop 7 [.slnil,I 0] (λc=>.BY p 0 λ_ _ d=>.ea 13 [d,q] λe=>.fl e 2 λ_ f=>.ln [f] λh=>.il [g c 1,h] λj=>.AH j (.BY p 0 λ_ _ k=>.ea 13 [k,q] λm=>.fl m 2 λ_ n=>.ea 1 [n,g c 1] λo=>.ld o λs=>.ie [s,u] λw=>.Df 100048 (.AH w (.op (.Bx 1) [r] λy=>.op (.append 1 8) [g c 0,y] λz=>.rn [z]) (.rn [g c 0])) (λx a0=>match x with| .normal=>.BY p 0 λ_ _ a1=>.ea 13 [a1,q] λa2=>.fl a2 2 λ_ a5=>.ea 1 [a5,g c 1] λa7=>.ld a7 λa8=>.op (.Bx 1) [a8] λb0=>.op (.append 1 8) [g a0 0,b0] λb1=>.ia [g c 1,I 1] λb2=>.rn [b1,b2]| .exit i=>if i=1 then .ia [g c 1,I 1] λb3=>.rn [g a0 0,b3] else .ret (.exit i) [g a0 0,g c 1]| .ret=>.rr [g a0 0,g c 1])) (.rx 0 [g c 0,g c 1])) (lx 0 (λb4=>.ie [u,I 0] λb5=>.Df 100068 (.AH b5 (.op (.Bx 1) [r] λb6=>.op (.append 1 8) [g b4 0,b6] λb7=>.rn [b7]) (.rn [g b4 0])) (nx (λb8=>.BY p 0 λ_ _ b9=>.ea 13 [b9,q] λc0=>.op (.EC 2) [c0] λc1=>.store 1 c1 (g b8 0) (.BY p 0 λ_ _ c2=>.ea 13 [c2,r] λc4=>.op (.EC 1) [c4] λc5=>.store 1 c5 q (.rr [I 0]))) λb8=>.rr [I 0])) λb4=>.rr [I 0]))
theorem mW:xV cx 133 aAR:=λ_ _ _ _=>by kernel_rfl
def ky(p q:Aa):IT:=
 .call 125 [p,q] λa=>.il [a,I 1] λb=>.AH b (.ln [p] λc=>.call 123 [p,c] λd=>.KR d λe=>.KR ff λf=>.rr [.tuple [e,f]]) (.ia [a,I 1] λh=>.op (.Hq 4 false true false) [p,h] λj=>.call 123 [p,a] λk=>.FE 4 40 k j λm=>.KR m λn=>.KR tt λo=>.rr [.tuple [n,o]])
theorem Y3:DR cx 134 ky:=λ_ _=>by kernel_rfl
def aEW(p q r:Aa):IT:=
 .cells 4 q λa=>.il [r,I 1] λb=>.AH b (.ln [p] λc=>.ig [I 1,c] λd=>.AH d (.ln [p] λe=>.op (.Hq 4 false false true) [p,e] λf=>.op (.append 4 40) [.slnil,f] λh=>.op (.Bx 4) [a4 a] λj=>.op (.append 4 40) [h,j] λk=>.op (.Hq 4 false true false) [p,e] λm=>.op (.append 4 40) [k,m] λn=>.rr [n]) (.op (.Hq 4 false false true) [p,I 1] λo=>.op (.append 4 40) [.slnil,o] λs=>.op (.Bx 4) [a4 a] λu=>.op (.append 4 40) [s,u] λw=>.op (.Hq 4 false true false) [p,I 1] λy=>.op (.append 4 40) [w,y] λz=>.rr [z])) (.ln [p] λa0=>.ig [r,a0] λa1=>.AH a1 (.ln [p] λa2=>.op (.Hq 4 false false true) [p,a2] λa5=>.op (.append 4 40) [.slnil,a5] λa7=>.op (.Bx 4) [a4 a] λa8=>.op (.append 4 40) [a7,a8] λb0=>.op (.Hq 4 false true false) [p,a2] λb1=>.op (.append 4 40) [b0,b1] λb2=>.rr [b2]) (.op (.Hq 4 false false true) [p,r] λb3=>.op (.append 4 40) [.slnil,b3] λb4=>.op (.Bx 4) [a4 a] λb5=>.op (.append 4 40) [b4,b5] λb6=>.op (.Hq 4 false true false) [p,r] λb7=>.op (.append 4 40) [b6,b7] λb8=>.rr [b8]))
theorem kz:Lt cx 135 aEW:=λ_ _ _=>by kernel_rfl
end Go.Am
