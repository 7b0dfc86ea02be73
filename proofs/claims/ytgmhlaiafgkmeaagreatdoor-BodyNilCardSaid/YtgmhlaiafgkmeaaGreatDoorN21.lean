/- Lemmas -/
import Derived.Test.YtgmhlaiafgkmeaaGreatDoorN10
import Derived.Test.YtgmhlaiafgkmeaaGreatDoorN18
set_option linter.all false
namespace Go.Am
open Go
def xY(p q:Aa):IT:=
 .op (.Lh true) [p,.ptr none] λa=>.Ah a (.ih [q,I 1] λb=>.Ah b (.AN p 0 λ_ _ c=>.ln [c] λd=>.ik [q,d] λe=>.rr [e]) (.rr [ff])) (.rr [ff])
def dK:Cu cx 52 xY:=λ_ _=>by kernel_rfl
def t53(p:Aa):IT:=
 .op (.FZ false .sl) [p,.slnil] λa=>.Ah a (.rr [.slnil]) (.op (.BD 1) [] λb=>.CM 1 8 b p λc=>.rr [c])
def dL:CN cx 53 t53:=λ_=>by kernel_rfl
def xZ(p q:Aa):IT:=
 .AN p 0 λ_ _ a=>.ib [q,I 1] λb=>.ea 13 [a,b] λc=>.rr [c]
def dM:Cu cx 54 xZ:=λ_ _=>by kernel_rfl
def yA(p q:Aa):IT:=
 .op (.Lh false) [p,.ptr none] λa=>.Ah a (.rr [I 1]) (.ln [q] λb=>.loop 4 [I 0,I 0] (λc=>.il [g c 1,b] λd=>.Ah d (.ea 1 [q,g c 1] λe=>.ld e λf=>.call 52 [p,f] λh=>.nt [h] λj=>.Ah j (.rr [I 3,g c 1]) (.ia [g c 1,I 1] λk=>.rn [g c 0,k])) (.rx 0 [g c 0,g c 1])) (lx 0 (λm=>.rr [I 0]) λm=>.rr [g m 0]))
def dN:Cu cx 55 yA:=λ_ _=>by kernel_rfl
def yB(p:Aa):IT:=
 .fa p 0 λ_ a=>.load (some 13) a λb=>.cells 13 b λc=>.fa p 0 λ_ d=>.fl d 2 λ_ e=>.fa p 0 λ_ f=>.fl f 6 λh j=>.call 53 [e] λk=>.ld h λm=>.same j m (.call 100069 [j] λn=>.cells 1 k λo=>.cells 1 n λs=>.cells 13 (.agg [g c 0,g c 1,g o 0,g c 3,g c 4,g c 5,g s 0,g c 7,g c 8,g c 9,g c 10,g c 11,g c 12]) λu=>.rr [cG u])
def dO:CN cx 56 yB:=λ_=>by kernel_rfl
def uU(p:Aa):IT:=
 .cells 12 p λa=>.op (.append 3 40) [.slnil,g a 8] λb=>.cells 1 b λc=>.cells 12 (.agg [g a 0,g a 1,g a 2,g a 3,g a 4,g a 5,g a 6,g a 7,g c 0,g a 9,g a 10,g a 11]) λd=>.rr [Ci d]
def US:CN cx 58 uU:=λ_=>by kernel_rfl
def uV(p q:Aa):IT:=
 .cells 12 q λa=>.call 70 [p,Ci a] λb=>.nt [b] λc=>.Ah c (.rr [ff]) (.call 99 [Ci a] λd=>.Ah d (.rr [ff]) (.ie [g a 0,I 4] λe=>.Ah e (.AN p 1 λ_ _ f=>.call 87 [p,g a 10,f] λ_=>.rr [ff]) (.iq [g a 0,I 1] λh=>.Ah h (.AN p 0 λ_ _ j=>.AN p 1 λ_ _ k=>.call 100 [j,k,tt] λ_=>.call 101 [p,I 2] λm=>.rr [m]) (.AN p 0 λ_ _ n=>.AN p 1 λ_ _ o=>.call 102 [n,o,g a 1,g a 3,g a 5] λs=>.op (.ext 0) [s] λu=>.op (.ext 1) [s] λw=>.ie [w,I 0] λy=>.Ah y (.AN p 0 λ_ _ z=>.AN p 1 λ_ _ a0=>.call 103 [z,a0,u,I 0] λ_=>.call 104 [Ci a] λa1=>.Ah a1 (.AN p 0 λ_ _ a2=>.AN p 1 λ_ _ a5=>.call 100 [a2,a5,tt] λ_=>.fa p 4 λ_ a7=>.store 1 a7 (I 2) (.rr [ff])) (.fa p 4 λ_ a8=>.store 1 a8 (I 2) (.rr [ff]))) (.call 104 [Ci a] λb0=>.Ah b0 (.AN p 0 λ_ _ b1=>.AN p 1 λ_ _ b2=>.call 100 [b1,b2,tt] λ_=>.fa p 4 λ_ b3=>.store 1 b3 (I 2) (.rr [ff])) (.fa p 4 λ_ b4=>.store 1 b4 (I 2) (.rr [ff])))))))
def UT:Cu cx 59 uV:=λ_ _=>by kernel_rfl
def uW(p q:Aa):IT:=
 .cells 12 q λa=>.call 70 [p,Ci a] λb=>.nt [b] λc=>.Ah c (.rr [ff]) (.ie [g a 0,I 1] λd=>.Ah d (.rr [ff]) (.call 99 [Ci a] λe=>.Ah e (.rr [ff]) (.call 105 [Ci a,S mg] λf=>.Ah f (.rr [ff]) (.ie [g a 0,I 4] λh=>.Ah h (.AN p 1 λ_ _ j=>.call 87 [p,g a 10,j] λ_=>.rr [ff]) (.call 106 [Ci a,S kz] λk=>.Ah k (.call 91 [p,Ci a] λ_=>.fa p 4 λ_ m=>.store 1 m (I 3) (.rr [ff])) (.call 107 [S kz] λn=>.call 91 [p,n] λ_=>.call 101 [p,I 3] λo=>.rr [o]))))))
def UU:Cu cx 60 uW:=λ_ _=>by kernel_rfl
def uX(p q:Aa):IT:=
 .cells 12 q λa=>.call 70 [p,Ci a] λb=>.nt [b] λc=>.Ah c (.rr [ff]) (.ie [g a 0,I 1] λd=>.Ah d (.rr [ff]) (.call 99 [Ci a] λe=>.Ah e (.rr [ff]) (.call 105 [Ci a,S mg] λf=>.Ah f (.rr [ff]) (.ie [g a 0,I 4] λh=>.Ah h (.call 87 [p,g a 10,I 0] λ_=>.rr [ff]) (.call 106 [Ci a,S kz] λj=>.Ah j (.call 45 [p,Ci a] λk=>.rr [k]) (.call 106 [Ci a,S mm] λm=>.Ah m (.call 91 [p,Ci a] λn=>.fa p 7 λ_ o=>.store 1 o n (.fa p 4 λ_ s=>.store 1 s (I 4) (.rr [ff]))) (.call 107 [S mm] λu=>.call 91 [p,u] λw=>.fa p 7 λ_ y=>.store 1 y w (.call 101 [p,I 4] λz=>.rr [z]))))))))
def UW:Cu cx 61 uX:=λ_ _=>by kernel_rfl
def uY(p q:Aa):IT:=
 .cells 12 q λa=>.call 70 [p,Ci a] λb=>.nt [b] λc=>.Ah c (.rr [ff]) (.ie [g a 0,I 1] λd=>.Ah d (.rr [ff]) (.call 106 [Ci a,S mm] λe=>.Ah e (.rr [ff]) (.call 105 [Ci a,S [104,101,97,100,32,116,101,109,112,108,97,116,101,32,98,111,100,121,32,104,116,109,108,32,98,114]] λf=>.Ah f (.rr [ff]) (.call 99 [Ci a] λh=>.Ah h (.call 108 [p,g a 11] λ_=>.rr [ff]) (.ie [g a 0,I 4] λj=>.Ah j (.call 87 [p,g a 10,I 0] λ_=>.rr [ff]) (.call 106 [Ci a,S kz] λk=>.Ah k (.call 45 [p,Ci a] λm=>.rr [m]) (.call 106 [Ci a,S [98,97,115,101,32,98,97,115,101,102,111,110,116,32,98,103,115,111,117,110,100,32,108,105,110,107,32,109,101,116,97]] λn=>.Ah n (.call 109 [p,Ci a] λ_=>.rr [ff]) (.call 106 [Ci a,S mf] λo=>.Ah o (.call 110 [p,Ci a,I 2] λ_=>.rr [ff]) (.call 106 [Ci a,S [110,111,102,114,97,109,101,115,32,115,116,121,108,101]] λs=>.Ah s (.call 110 [p,Ci a,I 3] λ_=>.rr [ff]) (.call 106 [Ci a,S [115,99,114,105,112,116]] λu=>.Ah u (.call 110 [p,Ci a,I 4] λ_=>.rr [ff]) (.call 106 [Ci a,S nw] λw=>.Ah w (.call 91 [p,Ci a] λ_=>.fa p 4 λ_ y=>.store 1 y (I 5) (.rr [ff])) (.call 111 [Ci a,S mm] λz=>.Ah z (.fa p 2 λ_ a0=>.call 112 [a0] λ_=>.fa p 4 λ_ a1=>.store 1 a1 (I 6) (.rr [ff])) (.call 106 [Ci a,S ku] λa2=>.Ah a2 (.call 91 [p,Ci a] λ_=>.fa p 3 λ_ a5=>.call 113 [a5] λ_=>.fa p 14 λ_ a7=>.store 1 a7 ff (.fa p 4 λ_ a8=>.store 1 a8 (I 18) (.AN p 6 λ_ _ b0=>.call 68 [b0] λb1=>.op (.BD 1) [I 18] λb2=>.op (.append 1 8) [b1,b2] λb3=>.fa p 6 λ_ b4=>.store 1 b4 b3 (.rr [ff])))) (.call 111 [Ci a,S ku] λb5=>.Ah b5 (.call 114 [p] λ_=>.rr [ff]) (.fa p 2 λ_ b6=>.call 112 [b6] λ_=>.call 101 [p,I 6] λb7=>.rr [b7])))))))))))))))
def UX:Cu cx 62 uY:=λ_ _=>by kernel_rfl
def uZ(p q:Aa):IT:=
 .cells 12 q λa=>.call 70 [p,Ci a] λb=>.nt [b] λc=>.Ah c (.rr [ff]) (.ie [g a 0,I 1] λd=>.Ah d (.rr [ff]) (.call 106 [Ci a,S [104,101,97,100,32,110,111,115,99,114,105,112,116]] λe=>.Ah e (.rr [ff]) (.call 105 [Ci a,S [110,111,115,99,114,105,112,116,32,98,114]] λf=>.Ah f (.rr [ff]) (.call 106 [Ci a,S kz] λh=>.Ah h (.call 45 [p,Ci a] λj=>.rr [j]) (.call 111 [Ci a,S nw] λk=>.Ah k (.fa p 2 λ_ m=>.call 112 [m] λ_=>.fa p 4 λ_ n=>.store 1 n (I 4) (.rr [ff])) (.call 99 [Ci a] λo=>.Ah o (.call 62 [p,Ci a] λs=>.rr [s]) (.ie [g a 0,I 4] λu=>.Ah u (.call 62 [p,Ci a] λw=>.rr [w]) (.call 106 [Ci a,S [98,97,115,101,102,111,110,116,32,98,103,115,111,117,110,100,32,108,105,110,107,32,109,101,116,97,32,110,111,102,114,97,109,101,115,32,115,116,121,108,101]] λy=>.Ah y (.call 62 [p,Ci a] λz=>.rr [z]) (.fa p 2 λ_ a0=>.call 112 [a0] λ_=>.call 101 [p,I 4] λa1=>.rr [a1])))))))))
def UY:Cu cx 63 uZ:=λ_ _=>by kernel_rfl
def u0(p q:Aa):IT:=
 .cells 12 q λa=>.call 70 [p,Ci a] λb=>.nt [b] λc=>.Ah c (.rr [ff]) (.ie [g a 0,I 1] λd=>.Ah d (.rr [ff]) (.call 106 [Ci a,S mm] λe=>.Ah e (.rr [ff]) (.call 105 [Ci a,S [116,101,109,112,108,97,116,101,32,98,111,100,121,32,104,116,109,108,32,98,114]] λf=>.Ah f (.rr [ff]) (.call 99 [Ci a] λh=>.Ah h (.call 108 [p,g a 11] λ_=>.rr [ff]) (.ie [g a 0,I 4] λj=>.Ah j (.call 87 [p,g a 10,I 0] λ_=>.rr [ff]) (.call 106 [Ci a,S kz] λk=>.Ah k (.call 45 [p,Ci a] λm=>.rr [m]) (.call 106 [Ci a,S m_] λn=>.Ah n (.call 91 [p,Ci a] λ_=>.fa p 14 λ_ o=>.store 1 o ff (.fa p 4 λ_ s=>.store 1 s (I 7) (.rr [ff]))) (.call 106 [Ci a,S nc] λu=>.Ah u (.call 91 [p,Ci a] λ_=>.fa p 4 λ_ w=>.store 1 w (I 20) (.rr [ff])) (.call 106 [Ci a,S kq] λy=>.Ah y (.call 115 [p,Ci a,.func (.func 62) [] []] λz=>.rr [z]) (.call 111 [Ci a,S ku] λa0=>.Ah a0 (.call 62 [p,Ci a] λa1=>.rr [a1]) (.call 107 [S m_] λa2=>.call 91 [p,a2] λ_=>.call 101 [p,I 7] λa5=>.rr [a5])))))))))))
def UZ:Cu cx 64 u0:=λ_ _=>by kernel_rfl
def u5(p q:Aa):IT:=
 .cells 12 q λa=>.call 70 [p,Ci a] λb=>.nt [b] λc=>.Ah c (.rr [ff]) (.ie [g a 0,I 5] λd=>.Ah d (.call 108 [p,g a 11] λ_=>.rr [ff]) (.ie [g a 0,I 6] λe=>.Ah e (.fa p 2 λ_ f=>.call 112 [f] λ_=>.AN p 5 λ_ _ h=>.call 101 [p,h] λj=>.rr [j]) (.ie [g a 0,I 3] λk=>.Ah k (.fa p 2 λ_ m=>.call 112 [m] λ_=>.AN p 5 λ_ _ n=>.fa p 4 λ_ o=>.store 1 o n (.rr [ff])) (.rr [ff]))))
def U4:Cu cx 65 u5:=λ_ _=>by kernel_rfl
def u6(p q:Aa):IT:=
 .cells 12 q λa=>.call 70 [p,Ci a] λb=>.nt [b] λc=>.Ah c (.rr [ff]) (.ie [g a 0,I 5] λd=>.Ah d (.call 45 [p,Ci a] λe=>.rr [e]) (.ie [g a 0,I 4] λf=>.Ah f (.call 45 [p,Ci a] λh=>.rr [h]) (.ie [g a 0,I 1] λj=>.Ah j (.call 45 [p,Ci a] λk=>.rr [k]) (.call 106 [Ci a,S kq] λm=>.Ah m (.call 62 [p,Ci a] λn=>.rr [n]) (.call 111 [Ci a,S ku] λo=>.Ah o (.call 62 [p,Ci a] λs=>.rr [s]) (.call 106 [Ci a,S [99,97,112,116,105,111,110,32,99,111,108,103,114,111,117,112,32,116,98,111,100,121,32,116,102,111,111,116,32,116,104,101,97,100]] λu=>.Ah u (.call 116 [p,I 9] λw=>.rr [w]) (.call 106 [Ci a,S [99,111,108]] λy=>.Ah y (.call 116 [p,I 12] λz=>.rr [z]) (.call 106 [Ci a,S [116,114]] λa0=>.Ah a0 (.call 116 [p,I 13] λa1=>.rr [a1]) (.call 106 [Ci a,S [116,100,32,116,104]] λa2=>.Ah a2 (.call 116 [p,I 14] λa5=>.rr [a5]) (.ie [g a 0,I 2] λa7=>.Ah a7 (.call 116 [p,I 7] λa8=>.rr [a8]) (.ie [g a 0,I 3] λb0=>.Ah b0 (.rr [ff]) (.call 117 [p] λb1=>.nt [b1] λb2=>.Ah b2 (.call 88 [p] λ_=>.rr [ff]) (.fa p 2 λ_ b3=>.op (.BD 1) [S ku] λb4=>.call 118 [b3,b4] λ_=>.fa p 3 λ_ b5=>.call 119 [b5] λ_=>.call 120 [p] λ_=>.call 121 [p] λ_=>.rr [tt])))))))))))))
def U5:Cu cx 66 u6:=λ_ _=>by kernel_rfl
def yC(p:Aa):IT:=
 .op (.Lh true) [p,.ptr none] λa=>.Ah a (.AN p 0 λ_ _ b=>.op (.Lh true) [b,.ptr none] λc=>.rr [c]) (.rr [ff])
def dP:CN cx 67 yC:=λ_=>by kernel_rfl
def yD(p:Aa):IT:=
 .op (.FZ false .sl) [p,.slnil] λa=>.Ah a (.rr [.slnil]) (.op (.BD 1) [] λb=>.op (.append 1 8) [b,p] λc=>.rr [c])
def dQ:CN cx 68 yD:=λ_=>by kernel_rfl
def yE(p:Aa):IT:=
 .op (.FZ false .sl) [p,.slnil] λa=>.Ah a (.rr [.slnil]) (.op (.BD 3) [] λb=>.CM 3 40 b p λc=>.rr [c])
def dR:CN cx 69 yE:=λ_=>by kernel_rfl
def t70(p q:Aa):IT:=
 .cells 12 q λa=>.op (.Lh true) [p,.ptr none] λb=>.Ah b (.AN p 0 λ_ _ c=>.op (.Lh true) [c,.ptr none] λd=>.Ah d (.ih [g a 0,I 1] λe=>.Ah e (.ik [g a 0,I 6] λf=>.rr [f]) (.rr [ff])) (.rr [ff])) (.rr [ff])
def Qo:Cu cx 70 t70:=λ_ _=>by kernel_rfl
def yF:IT:=
 .GO λa=>.mem .KS [a,I 1,.func (.func 59) [] []] λ_=>.mem .KS [a,I 2,.func (.func 60) [] []] λ_=>.mem .KS [a,I 3,.func (.func 61) [] []] λ_=>.mem .KS [a,I 4,.func (.func 62) [] []] λ_=>.mem .KS [a,I 5,.func (.func 63) [] []] λ_=>.mem .KS [a,I 6,.func (.func 64) [] []] λ_=>.mem .KS [a,I 7,.func (.func 45) [] []] λ_=>.mem .KS [a,I 8,.func (.func 65) [] []] λ_=>.mem .KS [a,I 18,.func (.func 66) [] []] λ_=>.rr [a]
def dS:AH cx 71 []=yF:=by kernel_rfl
def yG(p:Aa):IT:=
 .fa p 1 λ_ a=>.fl a 11 λ_ b=>.ie [b,.int .i32 0] λc=>.Ah c (.rr [.tuple []]) (.AN p 0 λ_ _ d=>.call 90 [d] λ_=>.AN p 0 λ_ _ e=>.fa p 1 λ_ f=>.fl f 11 λ_ h=>.call 108 [e,h] λ_=>.fa p 1 λ_ j=>.load (some 12) j λk=>.call 99 [k] λm=>.nt [m] λn=>.Ah n (.AN p 0 λ_ _ o=>.fa o 14 λ_ s=>.store 1 s ff (.rr [.tuple []])) (.rr [.tuple []]))
def dT:CN cx 86 yG:=λ_=>by kernel_rfl
def yH(p q r:Aa):IT:=
 .call 67 [p] λa=>.nt [a] λb=>.Ah b (.rr [.tuple []]) (.ie [r,I 0] λc=>.CU 100014 (.Ah c (.call 138 [p,I 0] λd=>.op (.ext 0) [d] λe=>.op (.ext 1) [d] λf=>.rn [e,f]) (.rn [r,I 0])) (nx (λh=>.call 139 [p,g h 0] λj=>.cells 13 j λk=>.CU 200005 (.iq [g k 0,I 1] λm=>.Ah m (.iq [g k 0,I 2] λn=>.Ah n (.iq [g k 0,I 4] λo=>.rn [o]) (.rn [ff])) (.rn [ff])) (nx (λs=>.Ah (g s 0) (.rr [.tuple []]) (.AN p 0 λ_ _ u=>.call 140 [u,g k 3,q] λw=>.op (.ext 0) [w] λy=>.op (.ext 1) [w] λz=>.ie [z,I 0] λa0=>.CU 100048 (.Ah a0 (.call 141 [p,y,g h 0,g h 1] λ_=>.rn []) (.rn [])) (nx (λa1=>.rr [.tuple []]) λa1=>.rr [.tuple []]))) λs=>.rr [.tuple []])) λh=>.rr [.tuple []]))
def dU:I9 cx 87 yH:=λ_ _ _=>by kernel_rfl
def yI(p:Aa):IT:=
 .call 67 [p] λa=>.Ah a (.fa p 19 λ_ b=>.store 1 b tt (.rr [.tuple []])) (.rr [.tuple []])
def dV:CN cx 88 yI:=λ_=>by kernel_rfl
def yJ:IT:=
 .GO λa=>.call 142 [a,S kq,.func (.func 143) [] []] λ_=>.call 144 [.func (.func 145) [] []] λb=>.call 142 [a,S [97,100,100,114,101,115,115,32,97,114,116,105,99,108,101,32,97,115,105,100,101,32,98,108,111,99,107,113,117,111,116,101,32,99,101,110,116,101,114,32,100,101,116,97,105,108,115,32,100,105,97,108,111,103,32,100,105,114,32,100,105,118,32,100,108,32,102,105,101,108,100,115,101,116,32,102,105,103,99,97,112,116,105,111,110,32,102,105,103,117,114,101,32,102,111,111,116,101,114,32,104,101,97,100,101,114,32,104,103,114,111,117,112,32,109,97,105,110,32,109,101,110,117,32,110,97,118,32,111,108,32,112,32,115,101,97,114,99,104,32,115,101,99,116,105,111,110,32,115,117,109,109,97,114,121,32,117,108],b] λ_=>.call 144 [.func (.func 146) [] []] λc=>.call 142 [a,S ll,c] λ_=>.call 144 [.func (.func 147) [] []] λd=>.call 142 [a,S [112,114,101,32,108,105,115,116,105,110,103],d] λ_=>.call 144 [.func (.func 148) [] []] λe=>.call 142 [a,S [98,32,98,105,103,32,99,111,100,101,32,101,109,32,102,111,110,116,32,105,32,115,32,115,109,97,108,108,32,115,116,114,105,107,101,32,115,116,114,111,110,103,32,116,116,32,117],e] λ_=>.call 144 [.func (.func 149) [] []] λf=>.call 142 [a,S lq,f] λ_=>.call 144 [.func (.func 150) [] []] λh=>.call 142 [a,S [97,114,101,97,32,98,114,32,101,109,98,101,100,32,105,109,103,32,105,109,97,103,101,32,107,101,121,103,101,110,32,119,98,114,32,105,110,112,117,116,32,112,97,114,97,109,32,115,111,117,114,99,101,32,116,114,97,99,107,32,104,114],h] λ_=>.call 142 [a,S [99,97,112,116,105,111,110,32,99,111,108,32,99,111,108,103,114,111,117,112,32,102,114,97,109,101,32,104,101,97,100,32,116,98,111,100,121,32,116,100,32,116,102,111,111,116,32,116,104,32,116,104,101,97,100,32,116,114],.func (.func 151) [] []] λ_=>.call 144 [.func (.func 152) [] []] λj=>.call 142 [a,S [116,101,120,116,97,114,101,97,32,120,109,112,32,105,102,114,97,109,101,32,110,111,101,109,98,101,100,32,112,108,97,105,110,116,101,120,116],j] λ_=>.call 144 [.func (.func 153) [] []] λk=>.call 142 [a,S [114,98,32,114,116,99,32,114,112,32,114,116],k] λ_=>.call 144 [.func (.func 154) [] []] λm=>.call 142 [a,S [109,97,116,104,32,115,118,103],m] λ_=>.call 144 [.func (.func 155) [] []] λn=>.call 142 [a,S [108,105,32,100,100,32,100,116],n] λ_=>.call 144 [.func (.func 156) [] []] λo=>.call 142 [a,S [111,112,116,103,114,111,117,112,32,111,112,116,105,111,110],o] λ_=>.call 144 [.func (.func 157) [] []] λs=>.call 142 [a,S [104,116,109,108,32,98,111,100,121],s] λ_=>.call 144 [.func (.func 158) [] []] λu=>.call 144 [.func (.func 159) [] []] λw=>.call 144 [.func (.func 160) [] []] λy=>.mem (.Ni .nilFunc) [a,S nc] λz=>.op (.ext 1) [z] λa0=>.mem .GL [a,a0,u] λ_=>.Dt a (S [102,111,114,109]) w (.Dt a (S l_) y (.call 144 [.func (.func 161) [] []] λa1=>.call 144 [.func (.func 162) [] []] λa2=>.call 144 [.func (.func 163) [] []] λa5=>.call 144 [.func (.func 164) [] []] λa7=>.mem (.Ni .nilFunc) [a,S [97]] λa8=>.op (.ext 1) [a8] λb0=>.mem .GL [a,b0,a1] λ_=>.Dt a (S oe) a2 (.Dt a (S lj) a5 (.Dt a (S [115,101,108,101,99,116]) a7 (.rr [a])))))
def dW:AH cx 89 []=yJ:=by kernel_rfl
def yK(p:Aa):IT:=
 .call 67 [p] λa=>.nt [a] λb=>.Ah b (.DJ 3 p (.rr [.tuple []])) (.fa p 3 λ_ c=>.fl c 0 λ_ d=>.ln [d] λe=>.loop 2 [e] (λf=>.ig [g f 0,I 0] λh=>.Ah h (.fa p 3 λ_ j=>.fl j 0 λ_ k=>.ib [g f 0,I 1] λm=>.ea 3 [k,m] λn=>.fl n 0 λ_ o=>.iq [o,I 0] λs=>.Ah s (.fa p 2 λ_ u=>.fa p 3 λ_ w=>.fl w 0 λ_ y=>.ib [g f 0,I 1] λz=>.ea 3 [y,z] λa0=>.fl a0 0 λ_ a1=>.call 165 [u,a1] λa2=>.il [a2,I 0] λa5=>.Ah a5 (.ib [g f 0,I 1] λa7=>.rn [a7]) (.rx 0 [g f 0])) (.rx 0 [g f 0])) (.rx 0 [g f 0])) (lx 0 (λa8=>.fa p 3 λ_ b0=>.fl b0 0 λ_ b1=>.call 166 [b1] λb2=>.fa p 3 λ_ b3=>.op (.CS 0) [b3] λb4=>.store 1 b4 b2 (.loop 5 [g a8 0] (λb5=>.fa p 3 λ_ b6=>.fl b6 0 λ_ b7=>.ln [b7] λb8=>.il [g b5 0,b8] λb9=>.Ah b9 (.fa p 3 λ_ c0=>.fl c0 0 λc1 c2=>.fa p 3 λ_ c3=>.fl c3 0 λ_ c4=>.ea 3 [c4,g b5 0] λc5=>.load (some 3) c5 λc6=>.call 167 [c6] λc8=>.ld c1 λc9=>.same c2 c9 (.call 91 [p,c8] λd0=>.ld c1 λd1=>.same c2 d1 (.ea 3 [c2,g b5 0] λd2=>.op (.CS 0) [d2] λd3=>.store 1 d3 d0 (.ia [g b5 0,I 1] λd4=>.rn [d4])))) (.rx 2 [g b5 0])) (lx 2 (λd5=>.DJ 3 p (.rr [.tuple []])) λd5=>.DJ 3 p (.rr [.tuple []])))) λa8=>.DJ 3 p (.rr [.tuple []])))
def dX:CN cx 90 yK:=λ_=>by kernel_rfl
def yL(p q:Aa):IT:=
 .cells 12 q λa=>.call 124 [p,Ci a,I 1] λb=>.rr [b]
def dY:Cu cx 91 yL:=λ_ _=>by kernel_rfl
def yM:IT:=
 .GO λa=>.Dt a (S ku) (.func (.func 143) [] []) (.Dt a (S m_) (.func (.func 168) [] []) (.Dt a (S kz) (.func (.func 168) [] []) (.call 144 [.func (.func 169) [] []] λb=>.call 142 [a,S [97,100,100,114,101,115,115,32,97,114,116,105,99,108,101,32,97,115,105,100,101,32,98,108,111,99,107,113,117,111,116,101,32,98,117,116,116,111,110,32,99,101,110,116,101,114,32,100,101,116,97,105,108,115,32,100,105,97,108,111,103,32,100,105,114,32,100,105,118,32,100,108,32,102,105,101,108,100,115,101,116,32,102,105,103,99,97,112,116,105,111,110,32,102,105,103,117,114,101,32,102,111,111,116,101,114,32,104,101,97,100,101,114,32,104,103,114,111,117,112,32,108,105,115,116,105,110,103,32,109,97,105,110,32,109,101,110,117,32,110,97,118,32,111,108,32,112,114,101,32,115,101,97,114,99,104,32,115,101,99,116,105,111,110,32,115,117,109,109,97,114,121,32,117,108],b] λ_=>.call 144 [.func (.func 170) [] []] λc=>.call 142 [a,S [97,32,98,32,98,105,103,32,99,111,100,101,32,101,109,32,102,111,110,116,32,105,32,110,111,98,114,32,115,32,115,109,97,108,108,32,115,116,114,105,107,101,32,115,116,114,111,110,103,32,116,116,32,117],c] λ_=>.call 144 [.func (.func 171) [] []] λd=>.call 142 [a,S ll,d] λ_=>.call 144 [.func (.func 172) [] []] λe=>.call 142 [a,S lq,e] λ_=>.call 144 [.func (.func 173) [] []] λf=>.call 142 [a,S [112,32,108,105,32,100,100,32,100,116],f] λ_=>.call 144 [.func (.func 174) [] []] λh=>.Dt a (S [102,111,114,109]) h (.call 144 [.func (.func 175) [] []] λj=>.Dt a (S [98,114]) j (.rr [a])))))
def dZ:AH cx 92 []=yM:=by kernel_rfl
def yN(p q:Aa):IT:=
 .call 67 [p] λa=>.nt [a] λb=>.Ah b (.rr [.tuple []]) (.fa p 2 λ_ c=>.call 18 [c] λd=>.ib [d,I 1] λe=>.loop 2 [e] (λf=>.ih [g f 0,I 0] λh=>.Ah h (.fa p 2 λ_ j=>.call 20 [j,g f 0] λk=>.cells 4 k λm=>.op (.BD 1) [q] λn=>.call 176 [a4 m,n] λo=>.Ah o (.fa p 2 λ_ s=>.call 177 [s,q] λ_=>.fa p 2 λ_ u=>.call 178 [u,g m 0] λ_=>.rr [g f 0]) (.AW 179 [g m 1,g m 2] λw=>.Ah w (.rr [g f 0]) (.ib [g f 0,I 1] λy=>.rn [y]))) (.rx 0 [g f 0])) (lx 0 (λz=>.rr [.tuple []]) λz=>.rr [.tuple []]))
def eA:Cu cx 93 yN:=λ_ _=>by kernel_rfl
def yO:IT:=
 .op (.Bn [.slnil,.map none] []) [] λa=>.alloc 2 a λb=>.rr [b]
def eB:AH cx 95 []=yO:=by kernel_rfl
def yP(p q:Aa):IT:=
 .call 27 [p,q] λa=>.op (.ext 0) [a] λb=>.op (.ext 1) [a] λc=>.cells 13 b λd=>.iq [c,I 0] λe=>.Ah e (.rr [.ptr none]) (.iq [g d 0,I 1] λf=>.Ah f (.rr [.ptr none]) (.op (.Bn [.ptr none,I 0,.slnil,.slnil,I 0,I 0,.slnil,I 0,I 0,ff,I 0,I 0,S [],ff,ff,ff,S [],ff,I 0,ff] [(0,1),(1,1),(4,1),(14,1)]) [p,q,I 1,tt] λh=>.alloc 20 h λj=>.rr [j]))
def eC:Cu cx 96 yP:=λ_ _=>by kernel_rfl
def yQ(p q:Aa):IT:=
 .op (.Lh false) [p,.ptr none] λa=>.Ah a (.rr [I 0]) (.op (.Bn [I 0,I 0,.slnil,I 0,I 0,S [],.slnil,S [],S [],S [],ff,I 0,I 0] [(0,1),(10,1)]) [I 1,q] λb=>.call 182 [p,b] λc=>.call 54 [p,c] λd=>.fa d 0 λ_ e=>.op (.CS 3) [e] λf=>.store 1 f c (.rr [c]))
def eD:Cu cx 97 yQ:=λ_ _=>by kernel_rfl
def yR(p:Aa):IT:=
 .cells 12 p λa=>.ie [g a 0,I 5] λb=>.Ah b (.AW 183 [g a 11] λc=>.rr [c]) (.rr [ff])
def eE:CN cx 99 yR:=λ_=>by kernel_rfl
def jY(p q r:Aa):IT:=
 .call 184 [p,q] λa=>.iq [a,I 0] λb=>.Ah b (.rr [a]) (.call 54 [p,q] λc=>.fa c 0 λ_ d=>.op (.CS 10) [d] λe=>.store 1 e r (.rr [I 0]))
def Wq:I9 cx 100 jY:=λ_ _ _=>by kernel_rfl
def jZ(p q:Aa):IT:=
 .fa p 4 λ_ a=>.store 1 a q (.rr [tt])
def Wr:Cu cx 101 jZ:=λ_ _=>by kernel_rfl
def j0(p q r u w:Aa):IT:=
 .op (.Bn [I 0,I 0,.slnil,I 0,I 0,S [],.slnil,S [],S [],S [],ff,I 0,I 0] [(0,1),(5,1),(8,1),(9,1)]) [I 3,r,u,w] λa=>.call 185 [p,q,a] λb=>.op (.ext 0) [b] λc=>.op (.ext 1) [b] λd=>.rr [.tuple [c,d]]
def Ws:xK cx 102 j0:=λ_ _ _ _ _=>by kernel_rfl
def j1(p q r u:Aa):IT:=
 .op (.BD 1) [q,r] λa=>.call 55 [p,a] λb=>.iq [b,I 0] λc=>.Ah c (.rr [b]) (.CU 200004 (.iq [u,I 0] λd=>.Ah d (.call 52 [p,u] λe=>.nt [e] λf=>.rn [f]) (.rn [ff])) (nx (λh=>.Ah (g h 0) (.rr [I 3]) (.call 54 [p,q] λj=>.call 54 [p,r] λk=>.CU 200007 (.fa j 0 λ_ m=>.fl m 0 λ_ n=>.iq [n,I 1] λo=>.Ah o (.fa j 0 λ_ s=>.fl s 0 λ_ w=>.iq [w,I 2] λy=>.Ah y (.fa j 0 λ_ z=>.fl z 0 λ_ a0=>.iq [a0,I 4] λa1=>.rn [a1]) (.rn [ff])) (.rn [ff])) (λx a2=>match x with| .normal=>.Ah (g a2 0) (.rr [I 4]) (.fa k 0 λ_ a5=>.fl a5 0 λ_ a7=>.ie [a7,I 1] λa8=>.Ah a8 (.rr [I 4]) (.fa k 0 λ_ b0=>.fl b0 0 λ_ b1=>.ie [b1,I 2] λb2=>.Ah b2 (.rr [I 4]) (.call 186 [p,r,q] λb3=>.Ah b3 (.rr [I 4]) (.CU 200012 (.iq [u,I 0] λb4=>.Ah b4 (.ie [u,r] λb5=>.Ah b5 (.rn [tt]) (.call 54 [p,u] λb6=>.fa b6 0 λ_ b7=>.fl b7 1 λ_ b8=>.iq [b8,q] λb9=>.rn [b9])) (.rn [ff])) (λx c0=>match x with| .normal=>.Ah (g c0 0) (.rr [I 5]) (.call 187 [p,r] λ_=>.fa j 0 λ_ c1=>.fl c1 2 λ_ c2=>.ln [c2] λc3=>.iq [u,I 0] λc4=>.CU 100103 (.Ah c4 (.fa j 0 λ_ c5=>.fl c5 2 λ_ c7=>.call 188 [c7,u] λc8=>.rn [c8]) (.rn [c3])) (nx (λc9=>.fa j 0 λ_ d0=>.fl d0 2 λ_ d1=>.op (.BD 1) [r] λd2=>.mem .S8 [d1,g c9 0,d2] λd3=>.fa j 0 λ_ d4=>.op (.CS 2) [d4] λd5=>.store 1 d5 d3 (.fa k 0 λ_ d6=>.op (.CS 1) [d6] λd7=>.store 1 d7 q (.rr [I 0]))) λc9=>.rr [I 0]))| .exit i=>if i=0 then .call 187 [p,r] λ_=>.fa j 0 λ_ d8=>.fl d8 2 λ_ d9=>.ln [d9] λe0=>.iq [u,I 0] λe1=>.CU 100103 (.Ah e1 (.fa j 0 λ_ e2=>.fl e2 2 λ_ e3=>.call 188 [e3,u] λe4=>.rn [e4]) (.rn [e0])) (nx (λe5=>.fa j 0 λ_ e6=>.fl e6 2 λ_ e7=>.op (.BD 1) [r] λe8=>.mem .S8 [e7,g e5 0,e8] λe9=>.fa j 0 λ_ f0=>.op (.CS 2) [f0] λf1=>.store 1 f1 e9 (.fa k 0 λ_ f2=>.op (.CS 1) [f2] λf3=>.store 1 f3 q (.rr [I 0]))) λe5=>.rr [I 0]) else .fail| .ret=>.rr [I 0])))))| .exit i=>if i=0 then .call 187 [p,r] λ_=>.fa j 0 λ_ f4=>.fl f4 2 λ_ f5=>.ln [f5] λf6=>.iq [u,I 0] λf7=>.CU 100103 (.Ah f7 (.fa j 0 λ_ f8=>.fl f8 2 λ_ f9=>.call 188 [f9,u] λh0=>.rn [h0]) (.rn [f6])) (nx (λh1=>.fa j 0 λ_ h2=>.fl h2 2 λ_ h3=>.op (.BD 1) [r] λh4=>.mem .S8 [h3,g h1 0,h4] λh5=>.fa j 0 λ_ h6=>.op (.CS 2) [h6] λh7=>.store 1 h7 h5 (.fa k 0 λ_ h8=>.op (.CS 1) [h8] λh9=>.store 1 h9 q (.rr [I 0]))) λh1=>.rr [I 0]) else .fail| .ret=>.rr [I 0]))) λh=>.rr [I 0]))
def Wt:jA cx 103 j1:=λ_ _ _ _=>by kernel_rfl
end Go.Am
