/- Lemmas -/
import Derived.Test.YtgmhlaiafgkmeaaGreatDoorN10
import Derived.Test.YtgmhlaiafgkmeaaGreatDoorN18
set_option linter.all false
namespace Go.Am
open Go
def t7(p q:Aa):IT:=
 .cells 12 p λa=>.il [q,I 0] λb=>.Ah b (.AW 15 [] λc=>.rr [c]) (.ig [q,I 9] λd=>.Ah d (.AW 15 [] λe=>.rr [e]) (.call 29 [Ci a] λf=>.nt [f] λh=>.Ah h (.AW 15 [] λj=>.rr [j]) (.op (.Bn [.ptr none,I 0,.slnil,.slnil,I 0,I 0,.slnil,I 0,I 0,ff,I 0,I 0,S [],ff,ff,ff,S [],ff,I 0,ff] [(4,1)]) [q] λk=>.alloc 20 k λm=>.op (.Bn [I 0,I 0,S [],ff,S [],ff,S [],ff,ff,.slnil,ff,S [],.int .i32 0] [(0,1),(1,12)]) [q,Ci a] λn=>.call 30 [.ptr none,n] λo=>.nt [o] λs=>.Ah s (.op (.Bn [I 0,I 0,S [],ff,S [],ff,S [],ff,ff,.slnil,ff,S [],.int .i32 0] [(0,1),(1,12)]) [q,Ci a] λu=>.call 30 [m,u] λw=>.nt [w] λy=>.Ah y (.AN m 4 λ_ _ z=>.ie [z,q] λa0=>.Ah a0 (.fa m 2 λ_ a1=>.call 18 [a1] λa2=>.ie [a2,I 0] λa5=>.Ah a5 (.AN m 19 λ_ _ a7=>.nt [a7] λa8=>.Ah a8 (.AW 15 [] λb0=>.rr [b0]) (.rr [ff])) (.rr [ff])) (.rr [ff])) (.rr [ff])) (.rr [ff]))))
def Z8:Cu cx 7 t7:=λ_ _=>by kernel_rfl
def xN(p:Aa):IT:=
 .call 47 [] λa=>.op (.Lh false) [a,.ptr none] λb=>.Ah b (.rr [.tuple [.ptr none,ff]]) (.loop 5 [.ptr none,ff,I 0] (λc=>.ln [p] λd=>.il [g c 2,d] λe=>.Ah e (.ea 12 [p,g c 2] λf=>.load (some 12) f λh=>.call 48 [a,h] λj=>.nt [j] λk=>.Ah k (.rr [.ptr none,ff,g c 2]) (.AN a 4 λ_ _ m=>.AW 49 [m] λn=>.nt [n] λo=>.Ah o (.rr [a,ff,g c 2]) (.ia [g c 2,I 1] λs=>.rn [g c 0,g c 1,s]))) (.rx 0 [g c 0,g c 1,g c 2])) (lx 0 (λu=>.rr [.tuple [a,tt]]) λu=>.rr [.tuple [g u 0,g u 1]]))
def cW:CN cx 16 xN:=λ_=>by kernel_rfl
def uR(p:Aa):IT:=
 .op (.Lh false) [p,.ptr none] λa=>.Ah a (.rr [I 0]) (.AN p 0 λ_ _ b=>.ln [b] λc=>.rr [c])
def UP:CN cx 18 uR:=λ_=>by kernel_rfl
def t20(p q:Aa):IT:=
 .il [q,I 0] λa=>.Ah a (.op (.Bn [I 0,I 0,S [],ff] []) [] λb=>.cells 4 b λc=>.rr [a4 c]) (.call 18 [p] λd=>.ih [q,d] λe=>.Ah e (.op (.Bn [I 0,I 0,S [],ff] []) [] λf=>.cells 4 f λh=>.rr [a4 h]) (.AN p 0 λ_ _ j=>.ea 4 [j,q] λk=>.load (some 4) k λm=>.cells 4 m λn=>.rr [a4 n]))
def cX:Cu cx 20 t20:=λ_ _=>by kernel_rfl
def xO(p:Aa):IT:=
 .op (.Bn [I 0,S [],ff,S [],ff,S [],ff,ff,.slnil,ff,S [],.int .i32 0] [(0,1),(11,1)]) [I 5,p] λa=>.cells 12 a λb=>.rr [Ci b]
def cY:CN cx 23 xO:=λ_=>by kernel_rfl
def xP(p q:Aa):IT:=
 .call 52 [p,q] λa=>.nt [a] λb=>.Ah b (.rr [.slnil]) (.call 54 [p,q] λc=>.fa c 0 λ_ d=>.fl d 2 λ_ e=>.call 53 [e] λf=>.rr [f])
def cZ:Cu cx 26 xP:=λ_ _=>by kernel_rfl
def xQ(p q:Aa):IT:=
 .op (.BD 1) [q] λa=>.call 55 [p,a] λb=>.iq [b,I 0] λc=>.Ah c (.op (.Bn [I 0,I 0,.slnil,I 0,I 0,S [],.slnil,S [],S [],S [],ff,I 0,I 0] []) [] λd=>.cells 13 d λe=>.rr [.tuple [cG e,b]]) (.call 54 [p,q] λf=>.call 56 [f] λh=>.cells 13 h λj=>.rr [.tuple [cG j,I 0]])
def dA:Cu cx 27 xQ:=λ_ _=>by kernel_rfl
def xR(p:Aa):IT:=
 .cells 12 p λa=>.lt [g a 1] λb=>.ik [b,I 60] λc=>.Ah c (.lt [g a 3] λd=>.ik [d,I 100] λe=>.Ah e (.lt [g a 5] λf=>.ik [f,I 100] λh=>.Ah h (.lt [g a 10] λj=>.ik [j,I 200] λk=>.Ah k (.call 37 [g a 8] λm=>.rr [m]) (.rr [ff])) (.rr [ff])) (.rr [ff])) (.rr [ff])
def dB:CN cx 29 xR:=λ_=>by kernel_rfl
def xS(p q:Aa):IT:=
 .cells 13 q λa=>.call 58 [.agg [g a 1,g a 2,g a 3,g a 4,g a 5,g a 6,g a 7,g a 8,g a 9,g a 10,g a 11,g a 12]] λb=>.cells 12 b λc=>.ie [g a 0,I 0] λd=>.Ah d (.call 33 [p,Ci c] λe=>.rr [e]) (.ie [g a 0,I 1] λf=>.Ah f (.call 59 [p,Ci c] λh=>.rr [h]) (.ie [g a 0,I 2] λj=>.Ah j (.call 60 [p,Ci c] λk=>.rr [k]) (.ie [g a 0,I 3] λm=>.Ah m (.call 61 [p,Ci c] λn=>.rr [n]) (.ie [g a 0,I 4] λo=>.Ah o (.call 62 [p,Ci c] λs=>.rr [s]) (.ie [g a 0,I 5] λu=>.Ah u (.call 63 [p,Ci c] λw=>.rr [w]) (.ie [g a 0,I 6] λy=>.Ah y (.call 64 [p,Ci c] λz=>.rr [z]) (.ie [g a 0,I 7] λa0=>.Ah a0 (.call 45 [p,Ci c] λa1=>.rr [a1]) (.ie [g a 0,I 8] λa2=>.Ah a2 (.call 65 [p,Ci c] λa5=>.rr [a5]) (.ie [g a 0,I 9] λa7=>.Ah a7 (.call 66 [p,Ci c] λa8=>.rr [a8]) (.rr [ff]))))))))))
def dC:Cu cx 30 xS:=λ_ _=>by kernel_rfl
def uS(p q:Aa):IT:=
 .cells 12 q λa=>.call 70 [p,Ci a] λb=>.nt [b] λc=>.Ah c (.rr [ff]) (.AN p 4 λ_ d e=>.call 71 [] λf=>.ld d λh=>.same e h (.mem (.Vs .nilFunc true) [f,e] λj=>.op (.ext 0) [j] λk=>.op (.ext 1) [j] λm=>.Ah m (.B7 k [p,Ci a] λn=>.rr [n]) (.rr [ff])))
def UQ:Cu cx 33 uS:=λ_ _=>by kernel_rfl
def xT(p:Aa):IT:=
 .op (.Bn [I 0,S [],ff,S [],ff,S [],ff,ff,.slnil,ff,S [],.int .i32 0] [(0,1),(1,1)]) [I 2,p] λa=>.cells 12 a λb=>.rr [Ci b]
def dD:CN cx 34 xT:=λ_=>by kernel_rfl
def xU(p:Aa):IT:=
 .op (.Bn [I 0,S [],ff,S [],ff,S [],ff,ff,.slnil,ff,S [],.int .i32 0] [(0,1),(1,1)]) [I 3,p] λa=>.cells 12 a λb=>.rr [Ci b]
def dE:CN cx 35 xU:=λ_=>by kernel_rfl
def t37(p:Aa):IT:=
 .loop 2 [ff,I 0] (λa=>.ln [p] λb=>.il [g a 1,b] λc=>.Ah c (.ik [g a 1,I 20] λd=>.Ah d (.ea 3 [p,g a 1] λe=>.fl e 1 λ_ f=>.lt [f] λh=>.ig [h,I 400] λj=>.Ah j (.rr [ff,g a 1]) (.ea 3 [p,g a 1] λk=>.fl k 2 λ_ m=>.lt [m] λn=>.ig [n,I 400] λo=>.Ah o (.rr [ff,g a 1]) (.ia [g a 1,I 1] λs=>.rn [g a 0,s]))) (.rx 0 [g a 0,g a 1])) (.rx 0 [g a 0,g a 1])) (lx 0 (λu=>.ln [p] λw=>.ik [w,I 20] λy=>.rr [y]) λu=>.rr [g u 0])
def dF:CN cx 37 t37:=λ_=>by kernel_rfl
def uT(p q:Aa):IT:=
 .cells 12 q λa=>.call 70 [p,Ci a] λb=>.nt [b] λc=>.Ah c (.rr [ff]) (.op (.Bn [.ptr none,I 0,S [],ff,S [],ff,S [],ff,ff,.slnil,ff,S [],.int .i32 0] [(0,1),(1,12)]) [p,Ci a] λd=>.alloc 13 d λe=>.ie [g a 0,I 5] λf=>.Ah f (.call 86 [e] λ_=>.rr [ff]) (.ie [g a 0,I 4] λh=>.Ah h (.call 87 [p,g a 10,I 0] λ_=>.rr [ff]) (.ie [g a 0,I 6] λj=>.Ah j (.AN p 6 λ_ _ k=>.ln [k] λm=>.ig [m,I 0] λn=>.Ah n (.call 66 [p,Ci a] λo=>.rr [o]) (.call 88 [p] λ_=>.rr [ff])) (.ie [g a 0,I 2] λs=>.Ah s (.call 89 [] λu=>.Fy .nilFunc false u (g a 1) λw=>.op (.FZ true .fn) [w,.nilFunc] λy=>.Ah y (.B7 w [e] λz=>.rr [z]) (.call 90 [p] λ_=>.call 91 [p,Ci a] λ_=>.rr [ff])) (.ie [g a 0,I 3] λa0=>.Ah a0 (.call 92 [] λa1=>.Fy .nilFunc false a1 (g a 1) λa2=>.op (.FZ true .fn) [a2,.nilFunc] λa5=>.Ah a5 (.B7 a2 [e] λa7=>.rr [a7]) (.call 93 [p,g a 1] λ_=>.rr [ff])) (.rr [ff]))))))
def UR:Cu cx 45 uT:=λ_ _=>by kernel_rfl
def t46(p q:Aa):IT:=
 .call 16 [p] λa=>.op (.ext 0) [a] λb=>.op (.ext 1) [a] λ_=>.op (.Lh false) [b,.ptr none] λc=>.Ah c (.rr [S []]) (.AN b 0 λ_ _ d=>.call 94 [d,q] λe=>.rr [e])
def dG:Cu cx 46 t46:=λ_ _=>by kernel_rfl
def xV:IT:=
 .call 95 [] λa=>.call 97 [a,ff] λb=>.call 96 [a,b] λc=>.rr [c]
def dH:AH cx 47 []=xV:=by kernel_rfl
def xW(p q:Aa):IT:=
 .cells 12 q λa=>.AN p 6 λ_ _ b=>.ln [b] λc=>.ia [I 9,c] λd=>.loop 3 [ff,I 0] (λe=>.il [g e 1,d] λf=>.Ah f (.AN p 4 λ_ _ h=>.AW 49 [h] λj=>.nt [j] λk=>.Ah k (.rr [tt,g e 1]) (.call 58 [Ci a] λm=>.call 33 [p,m] λn=>.nt [n] λo=>.Ah o (.rr [tt,g e 1]) (.ia [g e 1,I 1] λs=>.rn [g e 0,s]))) (.rx 0 [g e 0,g e 1])) (lx 0 (λu=>.AN p 4 λ_ _ w=>.AW 49 [w] λy=>.nt [y] λz=>.rr [z]) λu=>.rr [g u 0])
def dI:Cu cx 48 xW:=λ_ _=>by kernel_rfl
def xX(p:Aa):IT:=
 .ih [p,I 1] λa=>.Ah a (.ik [p,I 8] λb=>.Ah b (.rr [tt]) (.ie [p,I 18] λc=>.rr [c])) (.ie [p,I 18] λd=>.rr [d])
def dJ:CN cx 49 xX:=λ_=>by kernel_rfl
end Go.Am
