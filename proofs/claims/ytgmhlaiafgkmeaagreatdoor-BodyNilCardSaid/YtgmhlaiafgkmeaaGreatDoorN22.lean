/- Lemmas -/
import Derived.Test.YtgmhlaiafgkmeaaGreatDoorN10
import Derived.Test.YtgmhlaiafgkmeaaGreatDoorN18
set_option linter.all false
namespace Go.Am
open Go
def j2(p:Aa):IT:=
 .cells 12 p λa=>.iq [g a 0,I 1] λb=>.Ah b (.rr [ff]) (.Ah (g a 7) (.rr [tt]) (.nt [g a 2] λc=>.Ah c (.rr [tt]) (.op (.str .neq) [g a 1,S kz] λd=>.Ah d (.rr [tt]) (.nt [g a 4] λe=>.Ah e (.rr [ff]) (.op (.BD 1) [S [45,47,47,87,51,79,47,47,68,84,68,32,87,51,32,72,84,77,76,32,83,116,114,105,99,116,32,51,46,48,47,47,69,78,47,47],S [45,47,87,51,67,47,68,84,68,32,72,84,77,76,32,52,46,48,32,84,114,97,110,115,105,116,105,111,110,97,108,47,69,78],S [72,84,77,76]] λf=>.ln [f] λh=>.loop 8 [ff,I 0] (λj=>.il [g j 1,h] λk=>.Ah k (.ea 1 [f,g j 1] λm=>.ld m λn=>.AW 190 [g a 3,n] λo=>.Ah o (.rr [tt,g j 1]) (.ia [g j 1,I 1] λs=>.rn [g j 0,s])) (.rx 0 [g j 0,g j 1])) (lx 0 (λu=>.fl (.A9 [g a 0,g a 1,g a 2,g a 3,g a 4,g a 5,g a 6,g a 7,g a 8,g a 9,g a 10,g a 11]) 6 λ_ w=>.nt [w] λy=>.Ah y (.B7 (.func (.func 191) [] [.A9 [g a 0,g a 1,g a 2,g a 3,g a 4,g a 5,g a 6,g a 7,g a 8,g a 9,g a 10,g a 11]]) [S [45,47,47,87,51,67,47,47,68,84,68,32,72,84,77,76,32,52,46,48,49,32,70,114,97,109,101,115,101,116,47,47]] λz=>.Ah z (.rr [tt]) (.B7 (.func (.func 191) [] [.A9 [g a 0,g a 1,g a 2,g a 3,g a 4,g a 5,g a 6,g a 7,g a 8,g a 9,g a 10,g a 11]]) [S [45,47,47,87,51,67,47,47,68,84,68,32,72,84,77,76,32,52,46,48,49,32,84,114,97,110,115,105,116,105,111,110,97,108,47,47]] λa0=>.Ah a0 (.rr [tt]) (.op (.BD 1) [S mc,S lz,S mj,S ls,S lu,S ml,S lk,S mi,S lg,S la,S ky,S k_,S me,S ly] λa1=>.call 192 [a1,.func (.func 191) [] [.A9 [g a 0,g a 1,g a 2,g a 3,g a 4,g a 5,g a 6,g a 7,g a 8,g a 9,g a 10,g a 11]]] λa2=>.rr [a2]))) (.op (.BD 1) [S mc,S lz,S mj,S ls,S lu,S ml,S lk,S mi,S lg,S la,S ky,S k_,S me,S ly] λa5=>.call 192 [a5,.func (.func 191) [] [.A9 [g a 0,g a 1,g a 2,g a 3,g a 4,g a 5,g a 6,g a 7,g a 8,g a 9,g a 10,g a 11]]] λa7=>.rr [a7])) λu=>.rr [g u 0]))))))
def Wu:CN cx 104 j2:=λ_=>by kernel_rfl
def j3(p q:Aa):IT:=
 .cells 12 p λa=>.ie [g a 0,I 3] λb=>.Ah b (.AW 193 [g a 1,q] λc=>.nt [c] λd=>.rr [d]) (.rr [ff])
def Wv:Cu cx 105 j3:=λ_ _=>by kernel_rfl
def j6(p q:Aa):IT:=
 .cells 12 p λa=>.ie [g a 0,I 2] λb=>.Ah b (.AW 193 [g a 1,q] λc=>.rr [c]) (.rr [ff])
def Ww:Cu cx 106 j6:=λ_ _=>by kernel_rfl
def j7(p:Aa):IT:=
 .op (.Bn [I 0,S [],ff,S [],ff,S [],ff,ff,.slnil,ff,S [],.int .i32 0] [(0,1),(1,1)]) [I 2,p] λa=>.cells 12 a λb=>.rr [Ci b]
def Wx:CN cx 107 j7:=λ_=>by kernel_rfl
def j8(p q:Aa):IT:=
 .call 67 [p] λa=>.nt [a] λb=>.Ah b (.rr [.tuple []]) (.call 138 [p,I 0] λc=>.op (.ext 0) [c] λd=>.op (.ext 1) [c] λe=>.call 139 [p,d] λf=>.cells 13 f λh=>.CU 200003 (.iq [g h 0,I 4] λj=>.Ah j (.iq [g h 0,I 2] λk=>.rn [k]) (.rn [ff])) (nx (λm=>.Ah (g m 0) (.rr [.tuple []]) (.ln [g h 2] λn=>.iq [e,I 0] λo=>.CU 100035 (.Ah o (.call 188 [g h 2,e] λs=>.rn [s]) (.rn [n])) (nx (λu=>.call 194 [.slnil,q] λw=>.Mn w λy=>.op .Oa [y] λz=>.ig [g u 0,I 0] λa0=>.CU 100044 (.Ah a0 (.ib [g u 0,I 1] λa1=>.ea 1 [g h 2,a1] λa2=>.ld a2 λa5=>.call 139 [p,a5] λa7=>.cells 13 a7 λa8=>.ie [g a8 0,I 5] λb0=>.Ah b0 (.AN p 0 λ_ _ b1=>.ib [g u 0,I 1] λb2=>.ea 1 [g h 2,b2] λb3=>.ld b3 λb4=>.op (.str .add) [g a8 7,z] λb5=>.call 195 [b1,b4,b5] λ_=>.rr []) (.rn [])) (.rn [])) (nx (λb6=>.AN p 0 λ_ _ b7=>.call 196 [b7,g h 3,z] λb8=>.op (.ext 0) [b8] λb9=>.op (.ext 1) [b8] λc0=>.ie [c0,I 0] λc1=>.CU 100083 (.Ah c1 (.call 141 [p,b9,d,e] λ_=>.rn []) (.rn [])) (nx (λc2=>.rr [.tuple []]) λc2=>.rr [.tuple []])) λb6=>.rr [.tuple []])) λu=>.rr [.tuple []]))) λm=>.rr [.tuple []]))
def Wy:Cu cx 108 j8:=λ_ _=>by kernel_rfl
def t109(p q:Aa):IT:=
 .cells 12 q λa=>.call 91 [p,Ci a] λ_=>.fa p 2 λ_ b=>.call 112 [b] λ_=>.rr [.tuple []]
def Wz:Cu cx 109 t109:=λ_ _=>by kernel_rfl
def j9(p q r:Aa):IT:=
 .cells 12 q λa=>.call 67 [p] λb=>.Ah b (.call 91 [p,Ci a] λ_=>.AN p 4 λ_ _ c=>.fa p 18 λ_ d=>.store 1 d r (.fa p 5 λ_ e=>.store 1 e c (.fa p 4 λ_ f=>.store 1 f (I 8) (.rr [.tuple []])))) (.rr [.tuple []])
def WA:I9 cx 110 j9:=λ_ _ _=>by kernel_rfl
def kC(p q:Aa):IT:=
 .cells 12 p λa=>.ie [g a 0,I 3] λb=>.Ah b (.AW 193 [g a 1,q] λc=>.rr [c]) (.rr [ff])
def WB:Cu cx 111 kC:=λ_ _=>by kernel_rfl
def kD(p:Aa):IT:=
 .call 18 [p] λa=>.il [a,I 2] λb=>.Ah b (.op (.Bn [I 0,I 0,S [],ff] []) [] λc=>.cells 4 c λd=>.rr [a4 d]) (.call 197 [p] λe=>.cells 4 e λf=>.AN p 0 λ_ _ h=>.AN p 0 λ_ _ j=>.ln [j] λk=>.ib [k,I 1] λm=>.op (.Ku 4 false false true) [h,m] λn=>.fa p 0 λ_ o=>.store 1 o n (.cells 4 (a4 f) λs=>.rr [a4 s]))
def WC:CN cx 112 kD:=λ_=>by kernel_rfl
def kE(p:Aa):IT:=
 .op (.Lh true) [p,.ptr none] λa=>.Ah a (.AN p 0 λ_ _ b=>.op (.Bn [I 0,S [],.slnil] []) [] λc=>.AN p 0 λ_ _ d=>.ln [d] λe=>.call 198 [b,c,e] λf=>.fa p 0 λ_ h=>.store 1 h f (.rr [.tuple []])) (.rr [.tuple []])
def WD:CN cx 113 kE:=λ_=>by kernel_rfl
def kF(p:Aa):IT:=
 .call 67 [p] λa=>.nt [a] λb=>.Ah b (.rr [.tuple []]) (.fa p 2 λ_ c=>.call 199 [c,S ku] λd=>.il [d,I 0] λe=>.Ah e (.rr [.tuple []]) (.fa p 2 λ_ f=>.call 200 [f] λ_=>.fa p 2 λ_ h=>.op (.BD 1) [S ku] λj=>.call 118 [h,j] λ_=>.fa p 3 λ_ k=>.call 119 [k] λ_=>.AN p 6 λ_ _ m=>.ln [m] λn=>.ig [n,I 0] λo=>.Ah o (.AN p 6 λ_ _ s=>.ib [n,I 1] λu=>.op (.Ku 1 false false true) [s,u] λw=>.call 68 [w] λy=>.fa p 6 λ_ z=>.store 1 z y (.call 121 [p] λ_=>.rr [.tuple []])) (.call 121 [p] λ_=>.rr [.tuple []])))
def WE:CN cx 114 kF:=λ_=>by kernel_rfl
def kG(p q r:Aa):IT:=
 .cells 12 q λa=>.AN p 7 λ_ _ b=>.fa p 2 λ_ c=>.op (.Bn [I 0,I 0,S [],ff] [(0,1),(1,1),(2,1)]) [b,I 1,S mm] λd=>.call 201 [c,d] λ_=>.B7 r [p,Ci a] λe=>.fa p 2 λ_ f=>.call 202 [f,b] λ_=>.rr [e]
def WG:I9 cx 115 kG:=λ_ _ _=>by kernel_rfl
def kH(p q:Aa):IT:=
 .call 100120 [p] λ_=>.AN p 6 λ_ _ a=>.op (.BD 1) [q] λb=>.Dm 1 8 a b λc=>.fa p 6 λ_ d=>.store 1 d c (.call 101 [p,q] λe=>.DJ 6 p (.rr [e]))
def WH:Cu cx 116 kH:=λ_ _=>by kernel_rfl
def kI(p:Aa):IT:=
 .fa p 2 λ_ a=>.call 199 [a,S ku] λb=>.ih [b,I 0] λc=>.rr [c]
def WI:CN cx 117 kI:=λ_=>by kernel_rfl
def kJ(p q:Aa):IT:=
 .cells 1 q λa=>.call 203 [p,.func (.func 204) [] [],.func (.func 205) [] [.A9 [g a 0]]] λb=>.rr [b]
def WJ:Cu cx 118 kJ:=λ_ _=>by kernel_rfl
def kK(p:Aa):IT:=
 .op (.Lh false) [p,.ptr none] λa=>.Ah a (.rr [I 0]) (.AN p 0 λ_ _ b=>.ln [b] λc=>.AN p 0 λ_ d e=>.call 207 [p] λf=>.ld d λh=>.same e h (.ib [f,I 1] λj=>.op (.Fe true) [j,I 0] λk=>.op (.Ku 3 false false true) [e,k] λm=>.fa p 0 λ_ n=>.store 1 n m (.AN p 0 λ_ _ o=>.ln [o] λs=>.ib [c,s] λu=>.rr [u])))
def WK:CN cx 119 kK:=λ_=>by kernel_rfl
def kL(p:Aa):IT:=
 .AN p 6 λ_ _ a=>.ln [a] λb=>.ig [b,I 0] λc=>.Ah c (.AN p 6 λ_ _ d=>.ib [b,I 1] λe=>.op (.Ku 1 false false true) [d,e] λf=>.call 68 [f] λh=>.fa p 6 λ_ j=>.store 1 j h (.rr [.tuple []])) (.rr [.tuple []])
def WL:CN cx 120 kL:=λ_=>by kernel_rfl
def kM(p:Aa):IT:=
 .call 67 [p] λa=>.nt [a] λb=>.Ah b (.rr [.tuple []]) (.fa p 4 λ_ c=>.store 1 c (I 7) (.fa p 2 λ_ d=>.call 18 [d] λe=>.ib [e,I 1] λf=>.loop 3 [f] (λh=>.ih [g h 0,I 0] λj=>.Ah j (.fa p 2 λ_ k=>.call 20 [k,g h 0] λm=>.cells 4 m λn=>.ie [g h 0,I 0] λo=>.Ah o (.AN p 9 λ_ _ s=>.Ah s (.fa p 10 λ_ u=>.load (some 4) u λw=>.cells 4 w λy=>.call 208 [p,a4 y,g h 0] λz=>.op (.ext 0) [z] λa0=>.op (.ext 1) [z] λa1=>.Ah a1 (.fa p 4 λ_ a2=>.store 1 a2 a0 (.rr [g h 0])) (.ib [g h 0,I 1] λa5=>.rn [a5])) (.call 208 [p,a4 n,g h 0] λa7=>.op (.ext 0) [a7] λa8=>.op (.ext 1) [a7] λb0=>.Ah b0 (.fa p 4 λ_ b1=>.store 1 b1 a8 (.rr [g h 0])) (.ib [g h 0,I 1] λb2=>.rn [b2]))) (.call 208 [p,a4 n,g h 0] λb3=>.op (.ext 0) [b3] λb4=>.op (.ext 1) [b3] λb5=>.Ah b5 (.fa p 4 λ_ b6=>.store 1 b6 b4 (.rr [g h 0])) (.ib [g h 0,I 1] λb7=>.rn [b7]))) (.rx 0 [g h 0])) (lx 0 (λb8=>.rr [.tuple []]) λb8=>.rr [.tuple []])))
def WM:CN cx 121 kM:=λ_=>by kernel_rfl
def kN(p q r:Aa):IT:=
 .cells 12 q λa=>.call 67 [p] λb=>.nt [b] λc=>.Ah c (.rr [I 0]) (.call 210 [p,.func (.func 129) [p] [],Ci a,r] λd=>.rr [d])
def WN:I9 cx 124 kN:=λ_ _ _=>by kernel_rfl
def kO(p q:Aa):IT:=
 .cells 12 q λa=>.call 91 [p,Ci a] λb=>.iq [b,I 0] λc=>.Ah c (.fa p 3 λ_ d=>.op (.Bn [I 0,S [],.slnil] [(0,1),(1,1),(2,1)]) [b,g a 1,g a 8] λe=>.call 211 [d,e] λ_=>.rr [b]) (.rr [b])
def WO:Cu cx 125 kO:=λ_ _=>by kernel_rfl
def kP(p:Aa):IT:=
 .call 67 [p] λa=>.Ah a (.fa p 2 λ_ b=>.op (.BD 1) [S [112]] λc=>.call 212 [b,I 3,c] λd=>.Ah d (.fa p 2 λ_ e=>.call 177 [e,S [112]] λ_=>.fa p 2 λ_ f=>.op (.BD 1) [S [112]] λh=>.call 118 [f,h] λ_=>.rr [.tuple []]) (.rr [.tuple []])) (.rr [.tuple []])
def WQ:CN cx 126 kP:=λ_=>by kernel_rfl
def t127(p q:Aa):IT:=
 .call 67 [p] λa=>.nt [a] λb=>.Ah b (.rr [.tuple []]) (.call 213 [p] λc=>.cells 4 c λd=>.op (.BD 1) [q] λe=>.call 176 [a4 d,e] λf=>.Ah f (.fa p 3 λ_ h=>.call 214 [h,g d 0] λj=>.il [j,I 0] λk=>.Ah k (.fa p 2 λ_ m=>.call 112 [m] λ_=>.rr [.tuple []]) (.loop 5 [I 0] (λn=>.il [g n 0,I 8] λo=>.Ah o (.call 215 [p,q] λs=>.nt [s] λu=>.Ah u (.rr [g n 0]) (.ia [g n 0,I 1] λw=>.rn [w])) (.rx 0 [g n 0])) (lx 0 (λy=>.rr [.tuple []]) λy=>.rr [.tuple []]))) (.loop 5 [I 0] (λz=>.il [g z 0,I 8] λa0=>.Ah a0 (.call 215 [p,q] λa1=>.nt [a1] λa2=>.Ah a2 (.rr [g z 0]) (.ia [g z 0,I 1] λa5=>.rn [a5])) (.rx 0 [g z 0])) (lx 0 (λa7=>.rr [.tuple []]) λa7=>.rr [.tuple []])))
def WR:Cu cx 127 t127:=λ_ _=>by kernel_rfl
def kQ(p q r:Aa):IT:=
 .cells 12 q λa=>.call 67 [p] λb=>.nt [b] λc=>.Ah c (.rr [.tuple []]) (.call 139 [p,r] λd=>.op (.part 0 none) [d] λe=>.iq [e,I 4] λf=>.Ah f (.rr [.tuple []]) (.call 139 [p,r] λh=>.op (.part 6 none) [h] λj=>.ln [g a 8] λk=>.loop 4 [j,I 0] (λm=>.il [g m 1,k] λn=>.Ah n (.ea 3 [g a 8,g m 1] λo=>.load (some 3) o λs=>.cells 3 s λu=>.call 216 [g m 0,.func (.func 217) [] [.A9 [g u 0,g u 1,g u 2]]] λw=>.nt [w] λy=>.Ah y (.fl (.A9 [g u 0,g u 1,g u 2]) 1 λ_ z=>.fl (.A9 [g u 0,g u 1,g u 2]) 2 λ_ a0=>.op (.Bn [I 0,S [],S []] [(1,1),(2,1)]) [z,a0] λa1=>.op (.BD 3) [a1] λa2=>.Dm 3 40 (g m 0) a2 λa5=>.ia [g m 1,I 1] λa7=>.rn [a5,a7]) (.ia [g m 1,I 1] λa8=>.rn [g m 0,a8])) (.rx 0 [g m 0,g m 1])) (lx 0 (λb0=>.AN p 0 λ_ _ b1=>.call 218 [b1,r,g b0 0] λ_=>.rr [.tuple []]) λb0=>.rr [.tuple []])))
def WS:I9 cx 128 kQ:=λ_ _ _=>by kernel_rfl
def kR(p q r u:Aa):IT:=
 .cells 12 q λa=>.CU 200001 (.call 67 [p] λb=>.nt [b] λc=>.Ah c (.rn [tt]) (.il [r,I 0] λd=>.Ah d (.rn [tt]) (.ig [r,I 7] λe=>.rn [e]))) (nx (λf=>.Ah (g f 0) (.op (.Bn [I 0,I 0,S [],ff] []) [] λh=>.cells 4 h λj=>.rr [a4 j]) (.call 219 [r,g a 8] λk=>.ie [r,I 2] λm=>.CU 100032 (.Ah m (.AW 220 [g a 1] λn=>.rn [n]) (.rn [g a 1])) (nx (λo=>.AN p 0 λ_ s w=>.call 222 [p,u] λy=>.ld s λz=>.same w z (.call 221 [w,y,r,g o 0,k] λa0=>.op (.ext 0) [a0] λa1=>.op (.ext 1) [a0] λa2=>.iq [a2,I 0] λa5=>.Ah a5 (.op (.Bn [I 0,I 0,S [],ff] []) [] λa7=>.cells 4 a7 λa8=>.rr [a4 a8]) (.call 209 [r,g o 0,k] λb0=>.op (.Bn [I 0,I 0,S [],ff] [(0,1),(1,1),(2,1),(3,1)]) [a1,r,g o 0,b0] λb1=>.cells 4 b1 λb2=>.rr [a4 b2]))) λo=>.rr [.agg [I 0,I 0,S [],ff]]))) λf=>.rr [.agg [I 0,I 0,S [],ff]])
def WT:jA cx 129 kR:=λ_ _ _ _=>by kernel_rfl
def kS(p q:Aa):IT:=
 .call 67 [p] λa=>.nt [a] λb=>.Ah b (.rr [.tuple [I 0,I 0]]) (.ie [q,I 0] λc=>.CU 100012 (.Ah c (.fa p 2 λ_ d=>.call 18 [d] λe=>.ie [e,I 0] λf=>.Ah f (.AN p 1 λ_ _ h=>.rr [q,h,I 0]) (.call 213 [p] λj=>.op (.part 0 none) [j] λk=>.rn [k,I 0,I 0])) (.rn [q,I 0,I 0])) (nx (λm=>.call 139 [p,g m 0] λn=>.cells 13 n λo=>.CU 200009 (.AN p 15 λ_ _ s=>.Ah s (.ie [g o 0,I 4] λu=>.Ah u (.op (.Bn [I 0,I 0,S [],ff] [(1,1),(2,1)]) [g o 4,g o 5] λw=>.op (.BD 1) [S lj,S mq,S mo,S mr,S [116,114]] λy=>.call 176 [w,y] λz=>.rn [z]) (.rn [ff])) (.rn [ff])) (nx (λa0=>.CU 100046 (.Ah (g a0 0) (.call 224 [p] λa1=>.op (.ext 0) [a1] λa2=>.op (.ext 1) [a1] λa5=>.rn [a2,a5]) (.rn [g m 0,g m 2])) (nx (λa7=>.call 139 [p,g a7 0] λa8=>.cells 13 a8 λb0=>.iq [g b0 11,I 0] λb1=>.Ah b1 (.rr [.tuple [g b0 11,I 0]]) (.rr [.tuple [g a7 0,g a7 1]])) λa7=>.rr [.tuple [g a7 0,g a7 1]])) λa0=>.rr [.tuple [g m 0,g m 2]])) λm=>.rr [.tuple [g m 1,g m 2]]))
def WU:Cu cx 138 kS:=λ_ _=>by kernel_rfl
def kT(p q:Aa):IT:=
 .AN p 0 λ_ _ a=>.call 27 [a,q] λb=>.op (.ext 0) [b] λc=>.op (.ext 1) [b] λ_=>.cells 13 c λd=>.cells 13 (cG d) λe=>.rr [cG e]
def WV:Cu cx 139 kT:=λ_ _=>by kernel_rfl
def kU(p q r:Aa):IT:=
 .op (.Bn [I 0,I 0,.slnil,I 0,I 0,S [],.slnil,S [],S [],S [],ff,I 0,I 0] [(0,1),(7,1)]) [I 6,r] λa=>.call 185 [p,q,a] λb=>.op (.ext 0) [b] λc=>.op (.ext 1) [b] λd=>.rr [.tuple [c,d]]
def WW:I9 cx 140 kU:=λ_ _ _=>by kernel_rfl
def kW(p q r u:Aa):IT:=
 .cells 1 p λa=>.call 139 [g a 0,r] λb=>.op (.part 0 none) [b] λc=>.ie [c,I 1] λd=>.Ah d (.call 139 [g a 0,q] λe=>.op (.part 0 none) [e] λf=>.ie [f,I 4] λh=>.Ah h (.AN (g a 0) 0 λ_ _ j=>.call 26 [j,r] λk=>.call 225 [k,.func (.func 226) [] [.A9 [g a 0]]] λm=>.Ah m (.rr [.tuple []]) (.ld (.A9 [g a 0]) λn=>.AN n 0 λ_ _ o=>.call 103 [o,r,q,u] λ_=>.rr [.tuple []])) (.AN (g a 0) 0 λ_ _ s=>.call 103 [s,r,q,u] λ_=>.rr [.tuple []])) (.AN (g a 0) 0 λ_ _ w=>.call 103 [w,r,q,u] λ_=>.rr [.tuple []])
def WX:jA cx 141 kW:=λ_ _ _ _=>by kernel_rfl
def kX(p q r:Aa):IT:=
 .call 227 [q] λa=>.ln [a] λb=>.loop 1 [I 0] (λc=>.il [g c 0,b] λd=>.Ah d (.ea 1 [a,g c 0] λe=>.ld e λf=>.Dt p f r (.ia [g c 0,I 1] λh=>.rn [h])) (.rx 0 [g c 0])) (lx 0 (λj=>.rr [.tuple []]) λj=>.rr [.tuple []])
def WY:I9 cx 142 kX:=λ_ _ _=>by kernel_rfl
def kY(p:Aa):IT:=
 .AN p 0 λ_ _ a=>.fa p 1 λ_ b=>.load (some 12) b λc=>.call 62 [a,c] λd=>.rr [d]
def WZ:CN cx 143 kY:=λ_=>by kernel_rfl
def kZ(p:Aa):IT:=
 .cells 1 p λa=>.rr [.func (.func 228) [] [.A9 [g a 0]]]
def W0:CN cx 144 kZ:=λ_=>by kernel_rfl
def k5(p:Aa):IT:=
 .AN p 0 λ_ _ a=>.call 126 [a] λ_=>.AN p 0 λ_ _ b=>.fa p 1 λ_ c=>.load (some 12) c λd=>.call 91 [b,d] λ_=>.rr [.tuple []]
def W8:CN cx 145 k5:=λ_=>by kernel_rfl
def t146(p:Aa):IT:=
 .AN p 0 λ_ _ a=>.call 126 [a] λ_=>.AN p 0 λ_ _ b=>.call 213 [b] λc=>.cells 4 c λd=>.ie [g d 1,I 1] λe=>.Ah e (.AW 229 [g d 2] λf=>.Ah f (.AN p 0 λ_ _ h=>.fa h 2 λ_ j=>.call 112 [j] λ_=>.AN p 0 λ_ _ k=>.fa p 1 λ_ m=>.load (some 12) m λn=>.call 91 [k,n] λ_=>.rr [.tuple []]) (.AN p 0 λ_ _ o=>.fa p 1 λ_ s=>.load (some 12) s λu=>.call 91 [o,u] λ_=>.rr [.tuple []])) (.AN p 0 λ_ _ w=>.fa p 1 λ_ y=>.load (some 12) y λz=>.call 91 [w,z] λ_=>.rr [.tuple []])
def W9:CN cx 146 t146:=λ_=>by kernel_rfl
def k6(p:Aa):IT:=
 .call 145 [p] λ_=>.AN p 0 λ_ _ a=>.fa a 17 λ_ b=>.store 1 b tt (.AN p 0 λ_ _ c=>.fa c 14 λ_ d=>.store 1 d ff (.rr [.tuple []]))
def Xa:CN cx 147 k6:=λ_=>by kernel_rfl
def t148(p:Aa):IT:=
 .AN p 0 λ_ _ a=>.call 90 [a] λ_=>.AN p 0 λ_ _ b=>.fa p 1 λ_ c=>.load (some 12) c λd=>.call 125 [b,d] λ_=>.rr [.tuple []]
def Xb:CN cx 148 t148:=λ_=>by kernel_rfl
def k7(p:Aa):IT:=
 .AN p 0 λ_ _ a=>.call 90 [a] λ_=>.AN p 0 λ_ _ b=>.fa p 1 λ_ c=>.load (some 12) c λd=>.call 91 [b,d] λ_=>.AN p 0 λ_ _ e=>.fa e 3 λ_ f=>.call 113 [f] λ_=>.AN p 0 λ_ _ h=>.fa h 14 λ_ j=>.store 1 j ff (.rr [.tuple []])
def Xc:CN cx 149 k7:=λ_=>by kernel_rfl
def k8(p:Aa):IT:=
 .AN p 0 λ_ _ a=>.AN a 14 λ_ _ b=>.fa p 1 λ_ c=>.fl c 1 λ_ d=>.se [d,S [104,114]] λe=>.Ah e (.AN p 0 λ_ _ f=>.call 126 [f] λ_=>.AN p 0 λ_ _ h=>.fa p 1 λ_ j=>.load (some 12) j λk=>.call 109 [h,k] λ_=>.AN p 0 λ_ _ m=>.fa m 14 λ_ n=>.store 1 n ff (.rr [.tuple []])) (.se [d,S [112,97,114,97,109]] λo=>.Ah o (.AN p 0 λ_ _ s=>.fa p 1 λ_ u=>.load (some 12) u λw=>.call 109 [s,w] λ_=>.AN p 0 λ_ _ y=>.fa y 14 λ_ z=>.store 1 z b (.rr [.tuple []])) (.se [d,S [115,111,117,114,99,101]] λa0=>.Ah a0 (.AN p 0 λ_ _ a1=>.fa p 1 λ_ a2=>.load (some 12) a2 λa5=>.call 109 [a1,a5] λ_=>.AN p 0 λ_ _ a7=>.fa a7 14 λ_ a8=>.store 1 a8 b (.rr [.tuple []])) (.se [d,S [116,114,97,99,107]] λb0=>.Ah b0 (.AN p 0 λ_ _ b1=>.fa p 1 λ_ b2=>.load (some 12) b2 λb3=>.call 109 [b1,b3] λ_=>.AN p 0 λ_ _ b4=>.fa b4 14 λ_ b5=>.store 1 b5 b (.rr [.tuple []])) (.se [d,S [105,110,112,117,116]] λb6=>.Ah b6 (.AN p 0 λ_ _ b7=>.call 90 [b7] λ_=>.Ah b (.fa p 1 λ_ b8=>.load (some 12) b8 λb9=>.call 230 [b9] λc0=>.AN p 0 λ_ _ c1=>.fa p 1 λ_ c2=>.load (some 12) c2 λc3=>.call 109 [c1,c3] λ_=>.AN p 0 λ_ _ c4=>.fa c4 14 λ_ c5=>.store 1 c5 c0 (.rr [.tuple []])) (.AN p 0 λ_ _ c6=>.fa p 1 λ_ c7=>.load (some 12) c7 λc8=>.call 109 [c6,c8] λ_=>.AN p 0 λ_ _ c9=>.fa c9 14 λ_ d0=>.store 1 d0 ff (.rr [.tuple []]))) (.se [d,S [105,109,97,103,101]] λd1=>.Ah d1 (.fa p 1 λ_ d2=>.op (.CS 1) [d2] λd3=>.store 1 d3 (S [105,109,103]) (.AN p 0 λ_ _ d4=>.call 90 [d4] λ_=>.AN p 0 λ_ _ d5=>.fa p 1 λ_ d6=>.load (some 12) d6 λd7=>.call 109 [d5,d7] λ_=>.AN p 0 λ_ _ d8=>.fa d8 14 λ_ d9=>.store 1 d9 ff (.rr [.tuple []]))) (.AN p 0 λ_ _ e0=>.call 90 [e0] λ_=>.AN p 0 λ_ _ e1=>.fa p 1 λ_ e2=>.load (some 12) e2 λe3=>.call 109 [e1,e3] λ_=>.AN p 0 λ_ _ e4=>.fa e4 14 λ_ e5=>.store 1 e5 ff (.rr [.tuple []])))))))
def Xd:CN cx 150 k8:=λ_=>by kernel_rfl
def k9(p:Aa):IT:=
 .rr [ff]
def Xe:CN cx 151 k9:=λ_=>by kernel_rfl
def lA(p:Aa):IT:=
 .fa p 1 λ_ a=>.fl a 1 λ_ b=>.se [b,S [112,108,97,105,110,116,101,120,116]] λc=>.Ah c (.call 145 [p] λ_=>.AN p 0 λ_ _ d=>.fa d 18 λ_ e=>.store 1 e (I 5) (.rr [.tuple []])) (.se [b,S [116,101,120,116,97,114,101,97]] λf=>.Ah f (.AN p 0 λ_ _ h=>.fa p 1 λ_ j=>.load (some 12) j λk=>.call 110 [h,k,I 2] λ_=>.AN p 0 λ_ _ m=>.fa m 17 λ_ n=>.store 1 n tt (.AN p 0 λ_ _ o=>.fa o 14 λ_ s=>.store 1 s ff (.rr [.tuple []]))) (.se [b,S [120,109,112]] λu=>.Ah u (.AN p 0 λ_ _ w=>.call 126 [w] λ_=>.AN p 0 λ_ _ y=>.call 90 [y] λ_=>.AN p 0 λ_ _ z=>.fa z 14 λ_ a0=>.store 1 a0 ff (.AN p 0 λ_ _ a1=>.fa p 1 λ_ a2=>.load (some 12) a2 λa5=>.call 110 [a1,a5,I 3] λ_=>.rr [.tuple []])) (.se [b,S [105,102,114,97,109,101]] λa7=>.Ah a7 (.AN p 0 λ_ _ a8=>.fa a8 14 λ_ b0=>.store 1 b0 ff (.AN p 0 λ_ _ b1=>.fa p 1 λ_ b2=>.load (some 12) b2 λb3=>.call 110 [b1,b3,I 3] λ_=>.rr [.tuple []])) (.AN p 0 λ_ _ b4=>.fa p 1 λ_ b5=>.load (some 12) b5 λb6=>.call 110 [b4,b6,I 3] λ_=>.rr [.tuple []]))))
def Xf:CN cx 152 lA:=λ_=>by kernel_rfl
def lB(p:Aa):IT:=
 .call 231 [p,S [114,117,98,121]] λa=>.Ah a (.fa p 1 λ_ b=>.fl b 1 λ_ c=>.se [c,S [114,112]] λd=>.Ah d (.AN p 0 λ_ _ e=>.fa e 2 λ_ f=>.call 177 [f,S oc] λ_=>.AN p 0 λ_ _ h=>.fa p 1 λ_ j=>.load (some 12) j λk=>.call 91 [h,k] λ_=>.rr [.tuple []]) (.fa p 1 λ_ m=>.fl m 1 λ_ n=>.se [n,S [114,116]] λo=>.Ah o (.AN p 0 λ_ _ s=>.fa s 2 λ_ u=>.call 177 [u,S oc] λ_=>.AN p 0 λ_ _ w=>.fa p 1 λ_ y=>.load (some 12) y λz=>.call 91 [w,z] λ_=>.rr [.tuple []]) (.AN p 0 λ_ _ a0=>.fa a0 2 λ_ a1=>.call 177 [a1,S []] λ_=>.AN p 0 λ_ _ a2=>.fa p 1 λ_ a5=>.load (some 12) a5 λa7=>.call 91 [a2,a7] λ_=>.rr [.tuple []]))) (.AN p 0 λ_ _ a8=>.fa p 1 λ_ b0=>.load (some 12) b0 λb1=>.call 91 [a8,b1] λ_=>.rr [.tuple []])
def Xg:CN cx 153 lB:=λ_=>by kernel_rfl
def lC(p:Aa):IT:=
 .fa p 1 λ_ a=>.fl a 1 λ_ b=>.se [b,S [109,97,116,104]] λc=>.Ah c (.AN p 0 λ_ _ d=>.call 90 [d] λ_=>.AN p 0 λ_ _ e=>.fa p 1 λ_ f=>.load (some 12) f λh=>.call 124 [e,h,I 3] λ_=>.fa p 1 λ_ j=>.fl j 9 λ_ k=>.Ah k (.AN p 0 λ_ _ m=>.fa m 2 λ_ n=>.call 112 [n] λ_=>.rr [.tuple []]) (.rr [.tuple []])) (.AN p 0 λ_ _ o=>.call 90 [o] λ_=>.AN p 0 λ_ _ s=>.fa p 1 λ_ u=>.load (some 12) u λw=>.call 124 [s,w,I 2] λ_=>.fa p 1 λ_ y=>.fl y 9 λ_ z=>.Ah z (.AN p 0 λ_ _ a0=>.fa a0 2 λ_ a1=>.call 112 [a1] λ_=>.rr [.tuple []]) (.rr [.tuple []]))
def Xh:CN cx 154 lC:=λ_=>by kernel_rfl
def lD(p:Aa):IT:=
 .AN p 0 λ_ _ a=>.fa a 14 λ_ b=>.store 1 b ff (.fa p 1 λ_ c=>.fl c 1 λ_ d=>.op (.str .neq) [d,S [108,105]] λe=>.CU 100016 (.Ah e (.rn [S [100,100,32,100,116]]) (.rn [S [108,105]])) (nx (λf=>.AN p 0 λ_ _ h=>.fa h 2 λ_ j=>.call 18 [j] λk=>.ib [k,I 1] λm=>.loop 5 [m] (λn=>.ih [g n 0,I 0] λo=>.Ah o (.AN p 0 λ_ _ s=>.fa s 2 λ_ u=>.call 20 [u,g n 0] λw=>.cells 4 w λy=>.CU 200008 (.ie [g y 1,I 1] λz=>.Ah z (.AW 193 [g y 2,g f 0] λa0=>.rn [a0]) (.rn [ff])) (λx a1=>match x with| .normal=>.Ah (g a1 0) (.call 232 [p,g y 2,g y 2] λ_=>.rx 0 [g n 0]) (.CU 200010 (.AW 179 [g y 1,g y 2] λa2=>.Ah a2 (.ie [g y 1,I 1] λa5=>.Ah a5 (.AW 193 [g y 2,S [97,100,100,114,101,115,115,32,100,105,118,32,112]] λa7=>.nt [a7] λa8=>.rn [a8]) (.nt [ff] λb0=>.rn [b0])) (.rn [ff])) (λx b1=>match x with| .normal=>.Ah (g b1 0) (.rx 0 [g n 0]) (.ib [g n 0,I 1] λb2=>.rn [b2])| .exit i=>if i=2 then .ib [g n 0,I 1] λb3=>.rn [b3] else if i=1 then .ib [g n 0,I 1] λb4=>.rn [b4] else .ret (.exit i) [g n 0]| .ret=>.rr [g n 0]))| .exit i=>if i=2 then .ib [g n 0,I 1] λb5=>.rn [b5] else if i=1 then .ib [g n 0,I 1] λb6=>.rn [b6] else .ret (.exit i) [g n 0]| .ret=>.rr [g n 0])) (.rx 0 [g n 0])) (lx 0 (λb7=>.call 145 [p] λ_=>.rr [.tuple []]) λb7=>.rr [.tuple []])) λf=>.rr [.tuple []]))
def Xi:CN cx 155 lD:=λ_=>by kernel_rfl
def lE(p:Aa):IT:=
 .AN p 0 λ_ _ a=>.call 213 [a] λb=>.call 233 [b,S mh] λc=>.Ah c (.AN p 0 λ_ _ d=>.fa d 2 λ_ e=>.call 112 [e] λ_=>.AN p 0 λ_ _ f=>.call 90 [f] λ_=>.AN p 0 λ_ _ h=>.fa p 1 λ_ j=>.load (some 12) j λk=>.call 91 [h,k] λ_=>.rr [.tuple []]) (.AN p 0 λ_ _ m=>.call 90 [m] λ_=>.AN p 0 λ_ _ n=>.fa p 1 λ_ o=>.load (some 12) o λs=>.call 91 [n,s] λ_=>.rr [.tuple []])
def Xj:CN cx 156 lE:=λ_=>by kernel_rfl
def lF(p:Aa):IT:=
 .AN p 0 λ_ _ a=>.call 117 [a] λb=>.Ah b (.rr [.tuple []]) (.AN p 0 λ_ _ c=>.fa c 2 λ_ d=>.call 18 [d] λe=>.ie [e,I 0] λf=>.Ah f (.rr [.tuple []]) (.fa p 1 λ_ h=>.fl h 1 λ_ j=>.se [j,S kz] λk=>.Ah k (.AN p 0 λ_ m n=>.fa p 1 λ_ o=>.load (some 12) o λs=>.AN p 0 λ_ _ u=>.fa u 2 λ_ w=>.call 20 [w,I 0] λy=>.load (some 12) o λz=>.same s z (.ld m λa0=>.same n a0 (.op (.part 0 none) [y] λa1=>.call 128 [n,s,a1] λ_=>.rr [.tuple []]))) (.call 234 [p] λa2=>.op (.ext 0) [a2] λa5=>.op (.ext 1) [a2] λa7=>.Ah a7 (.AN p 0 λ_ _ a8=>.fa a8 14 λ_ b0=>.store 1 b0 ff (.AN p 0 λ_ _ b1=>.fa p 1 λ_ b2=>.load (some 12) b2 λb3=>.call 128 [b1,b3,a5] λ_=>.rr [.tuple []])) (.rr [.tuple []]))))
def Xk:CN cx 157 lF:=λ_=>by kernel_rfl
def lG(p:Aa):IT:=
 .call 234 [p] λa=>.op (.ext 0) [a] λb=>.op (.ext 1) [a] λc=>.nt [c] λd=>.Ah d (.rr [.tuple []]) (.AN p 0 λ_ _ e=>.AN e 14 λ_ _ f=>.nt [f] λh=>.Ah h (.rr [.tuple []]) (.AN p 0 λ_ _ j=>.AN j 0 λ_ _ k=>.call 235 [k,b] λ_=>.loop 3 [] (λ_=>.AN p 0 λ_ _ m=>.fa m 2 λ_ n=>.call 18 [n] λo=>.ig [o,I 1] λs=>.Ah s (.AN p 0 λ_ _ u=>.fa u 2 λ_ w=>.call 112 [w] λ_=>.rn []) (.rx 0 [])) (lx 0 (λy=>.AN p 0 λ_ _ z=>.fa p 1 λ_ a0=>.load (some 12) a0 λa1=>.call 91 [z,a1] λ_=>.AN p 0 λ_ _ a2=>.fa a2 4 λ_ a5=>.store 1 a5 (I 20) (.rr [.tuple []])) λy=>.rr [.tuple []])))
def Xl:CN cx 158 lG:=λ_=>by kernel_rfl
def lH(p:Aa):IT:=
 .AN p 0 λ_ _ a=>.call 117 [a] λb=>.AN p 0 λ_ _ c=>.AN c 8 λ_ _ d=>.iq [d,I 0] λe=>.Ah e (.nt [b] λf=>.Ah f (.rr [.tuple []]) (.AN p 0 λ_ _ h=>.call 126 [h] λ_=>.AN p 0 λ_ _ j=>.fa p 1 λ_ k=>.load (some 12) k λm=>.call 91 [j,m] λn=>.nt [b] λo=>.Ah o (.AN p 0 λ_ _ s=>.fa s 8 λ_ u=>.store 1 u n (.rr [.tuple []])) (.rr [.tuple []]))) (.AN p 0 λ_ _ w=>.call 126 [w] λ_=>.AN p 0 λ_ _ y=>.fa p 1 λ_ z=>.load (some 12) z λa0=>.call 91 [y,a0] λa1=>.nt [b] λa2=>.Ah a2 (.AN p 0 λ_ _ a5=>.fa a5 8 λ_ a7=>.store 1 a7 a1 (.rr [.tuple []])) (.rr [.tuple []]))
def Xm:CN cx 159 lH:=λ_=>by kernel_rfl
def lI(p:Aa):IT:=
 .call 231 [p,S l_] λa=>.Ah a (.call 232 [p,S l_,S []] λ_=>.AN p 0 λ_ _ b=>.call 90 [b] λ_=>.AN p 0 λ_ _ c=>.fa p 1 λ_ d=>.load (some 12) d λe=>.call 91 [c,e] λ_=>.AN p 0 λ_ _ f=>.fa f 14 λ_ h=>.store 1 h ff (.rr [.tuple []])) (.AN p 0 λ_ _ j=>.call 90 [j] λ_=>.AN p 0 λ_ _ k=>.fa p 1 λ_ m=>.load (some 12) m λn=>.call 91 [k,n] λ_=>.AN p 0 λ_ _ o=>.fa o 14 λ_ s=>.store 1 s ff (.rr [.tuple []]))
def Xn:CN cx 160 lI:=λ_=>by kernel_rfl
def lJ(p:Aa):IT:=
 .AN p 0 λ_ _ a=>.fa a 3 λ_ b=>.call 236 [b,S [97]] λc=>.ih [c,I 0] λd=>.Ah d (.AN p 0 λ_ _ e=>.fa e 3 λ_ f=>.fl f 0 λ_ h=>.ea 3 [h,c] λj=>.fl j 0 λ_ k=>.AN p 0 λ_ _ m=>.call 127 [m,S [97]] λ_=>.AN p 0 λ_ _ n=>.fa n 3 λ_ o=>.call 237 [o,k] λ_=>.AN p 0 λ_ _ s=>.fa s 2 λ_ u=>.call 202 [u,k] λ_=>.call 148 [p] λ_=>.rr [.tuple []]) (.call 148 [p] λ_=>.rr [.tuple []])
def Xo:CN cx 161 lJ:=λ_=>by kernel_rfl
def lK(p:Aa):IT:=
 .AN p 0 λ_ _ a=>.call 90 [a] λ_=>.call 231 [p,S oe] λb=>.Ah b (.AN p 0 λ_ _ c=>.call 127 [c,S oe] λ_=>.AN p 0 λ_ _ d=>.call 90 [d] λ_=>.AN p 0 λ_ _ e=>.fa p 1 λ_ f=>.load (some 12) f λh=>.call 125 [e,h] λ_=>.rr [.tuple []]) (.AN p 0 λ_ _ j=>.fa p 1 λ_ k=>.load (some 12) k λm=>.call 125 [j,m] λ_=>.rr [.tuple []])
def Xp:CN cx 162 lK:=λ_=>by kernel_rfl
def lL(p:Aa):IT:=
 .AN p 0 λ_ _ a=>.AN a 0 λ_ _ b=>.AN p 0 λ_ _ c=>.AN c 1 λ_ _ d=>.call 27 [b,d] λe=>.op (.ext 0) [e] λf=>.op (.ext 1) [e] λ_=>.cells 13 f λh=>.nt [g h 10] λj=>.Ah j (.AN p 0 λ_ _ k=>.call 126 [k] λ_=>.AN p 0 λ_ _ m=>.fa p 1 λ_ n=>.load (some 12) n λo=>.call 91 [m,o] λ_=>.AN p 0 λ_ _ s=>.fa s 14 λ_ u=>.store 1 u ff (.AN p 0 λ_ _ w=>.fa w 4 λ_ y=>.store 1 y (I 9) (.rr [.tuple []]))) (.AN p 0 λ_ _ z=>.fa p 1 λ_ a0=>.load (some 12) a0 λa1=>.call 91 [z,a1] λ_=>.AN p 0 λ_ _ a2=>.fa a2 14 λ_ a5=>.store 1 a5 ff (.AN p 0 λ_ _ a7=>.fa a7 4 λ_ a8=>.store 1 a8 (I 9) (.rr [.tuple []])))
def Xq:CN cx 163 lL:=λ_=>by kernel_rfl
def t164(p:Aa):IT:=
 .AN p 0 λ_ _ a=>.call 90 [a] λ_=>.AN p 0 λ_ _ b=>.fa p 1 λ_ c=>.load (some 12) c λd=>.call 91 [b,d] λ_=>.AN p 0 λ_ _ e=>.fa e 14 λ_ f=>.store 1 f ff (.AN p 0 λ_ _ h=>.AN h 4 λ_ _ j=>.ie [j,I 9] λk=>.Ah k (.AN p 0 λ_ _ m=>.fa m 4 λ_ n=>.store 1 n (I 17) (.rr [.tuple []])) (.ie [j,I 11] λo=>.Ah o (.AN p 0 λ_ _ s=>.fa s 4 λ_ u=>.store 1 u (I 17) (.rr [.tuple []])) (.ie [j,I 13] λw=>.Ah w (.AN p 0 λ_ _ y=>.fa y 4 λ_ z=>.store 1 z (I 17) (.rr [.tuple []])) (.ie [j,I 14] λa0=>.Ah a0 (.AN p 0 λ_ _ a1=>.fa a1 4 λ_ a2=>.store 1 a2 (I 17) (.rr [.tuple []])) (.ie [j,I 15] λa5=>.Ah a5 (.AN p 0 λ_ _ a7=>.fa a7 4 λ_ a8=>.store 1 a8 (I 17) (.rr [.tuple []])) (.AN p 0 λ_ _ b0=>.fa b0 4 λ_ b1=>.store 1 b1 (I 16) (.rr [.tuple []])))))))
def Xr:CN cx 164 t164:=λ_=>by kernel_rfl
def lM(p q:Aa):IT:=
 .cells 1 q λa=>.call 238 [p,.func (.func 239) [] [.A9 [g a 0]]] λb=>.rr [b]
def Xs:Cu cx 165 lM:=λ_ _=>by kernel_rfl
def lN(p:Aa):IT:=
 .op (.FZ false .sl) [p,.slnil] λa=>.Ah a (.rr [.slnil]) (.op (.BD 3) [] λb=>.Eh 3 48 b p λc=>.rr [c])
def Xt:CN cx 166 lN:=λ_=>by kernel_rfl
def lO(p:Aa):IT:=
 .cells 3 p λa=>.op (.Bn [I 0,S [],ff,S [],ff,S [],ff,ff,.slnil,ff,S [],.int .i32 0] [(0,1),(1,1),(8,1)]) [I 2,g a 1,g a 2] λb=>.cells 12 b λc=>.rr [Ci c]
def Xu:CN cx 167 lO:=λ_=>by kernel_rfl
def lP(p:Aa):IT:=
 .call 231 [p,S m_] λa=>.nt [a] λb=>.Ah b (.rr [ff]) (.AN p 0 λ_ _ c=>.fa c 4 λ_ d=>.store 1 d (I 19) (.fa p 1 λ_ e=>.fl e 1 λ_ f=>.se [f,S kz] λh=>.rr [h]))
def Xv:CN cx 168 lP:=λ_=>by kernel_rfl
def lQ(p:Aa):IT:=
 .fa p 1 λ_ a=>.fl a 1 λ_ b=>.call 231 [p,b] λc=>.Ah c (.fa p 1 λ_ d=>.fl d 1 λ_ e=>.call 232 [p,e,S []] λ_=>.rr [.tuple []]) (.rr [.tuple []])
def Xw:CN cx 169 lQ:=λ_=>by kernel_rfl
def lR(p:Aa):IT:=
 .AN p 0 λ_ _ a=>.fa p 1 λ_ b=>.fl b 1 λ_ c=>.call 127 [a,c] λ_=>.rr [.tuple []]
def Xx:CN cx 170 lR:=λ_=>by kernel_rfl
def lS(p:Aa):IT:=
 .call 227 [S ll] λa=>.AN p 0 λ_ _ b=>.fa b 2 λ_ c=>.call 212 [c,I 1,a] λd=>.Ah d (.AN p 0 λ_ _ e=>.fa e 2 λ_ f=>.call 177 [f,S []] λ_=>.AN p 0 λ_ _ h=>.fa h 2 λ_ j=>.call 118 [j,a] λ_=>.rr [.tuple []]) (.rr [.tuple []])
def Xy:CN cx 171 lS:=λ_=>by kernel_rfl
def lT(p:Aa):IT:=
 .fa p 1 λ_ a=>.fl a 1 λ_ b=>.call 231 [p,b] λc=>.Ah c (.fa p 1 λ_ d=>.fl d 1 λ_ e=>.call 232 [p,e,S []] λ_=>.AN p 0 λ_ _ f=>.fa f 3 λ_ h=>.call 119 [h] λ_=>.rr [.tuple []]) (.rr [.tuple []])
def Xz:CN cx 172 lT:=λ_=>by kernel_rfl
def lU(p:Aa):IT:=
 .fa p 1 λ_ a=>.fl a 1 λ_ b=>.se [b,S [112]] λc=>.Ah c (.AN p 0 λ_ _ d=>.fa d 2 λ_ e=>.op (.BD 1) [b] λf=>.call 212 [e,I 3,f] λh=>.nt [h] λj=>.Ah j (.op (.str .neq) [b,S [112]] λk=>.Ah k (.rr [.tuple []]) (.AN p 0 λ_ m n=>.call 107 [S [112]] λo=>.ld m λs=>.same n s (.call 91 [n,o] λ_=>.call 232 [p,b,b] λ_=>.rr [.tuple []]))) (.call 232 [p,b,b] λ_=>.rr [.tuple []])) (.se [b,S [108,105]] λu=>.Ah u (.AN p 0 λ_ _ w=>.fa w 2 λ_ y=>.op (.BD 1) [b] λz=>.call 212 [y,I 2,z] λa0=>.nt [a0] λa1=>.Ah a1 (.op (.str .neq) [b,S [112]] λa2=>.Ah a2 (.rr [.tuple []]) (.AN p 0 λ_ a5 a7=>.call 107 [S [112]] λa8=>.ld a5 λb0=>.same a7 b0 (.call 91 [a7,a8] λ_=>.call 232 [p,b,b] λ_=>.rr [.tuple []]))) (.call 232 [p,b,b] λ_=>.rr [.tuple []])) (.AN p 0 λ_ _ b1=>.fa b1 2 λ_ b2=>.op (.BD 1) [b] λb3=>.call 212 [b2,I 1,b3] λb4=>.nt [b4] λb5=>.Ah b5 (.op (.str .neq) [b,S [112]] λb6=>.Ah b6 (.rr [.tuple []]) (.AN p 0 λ_ b7 b8=>.call 107 [S [112]] λb9=>.ld b7 λc0=>.same b8 c0 (.call 91 [b8,b9] λ_=>.call 232 [p,b,b] λ_=>.rr [.tuple []]))) (.call 232 [p,b,b] λ_=>.rr [.tuple []])))
def XA:CN cx 173 lU:=λ_=>by kernel_rfl
def lV(p:Aa):IT:=
 .AN p 0 λ_ _ a=>.call 117 [a] λb=>.Ah b (.call 169 [p] λ_=>.rr [.tuple []]) (.AN p 0 λ_ _ c=>.AN c 8 λ_ _ d=>.AN p 0 λ_ _ e=>.fa e 8 λ_ f=>.store 1 f i0 (.iq [d,I 0] λh=>.Ah h (.AN p 0 λ_ _ j=>.fa j 2 λ_ k=>.call 240 [k,I 1,d] λm=>.Ah m (.AN p 0 λ_ _ n=>.fa n 2 λ_ o=>.call 177 [o,S []] λ_=>.AN p 0 λ_ _ s=>.fa s 2 λ_ u=>.call 202 [u,d] λ_=>.rr [.tuple []]) (.rr [.tuple []])) (.rr [.tuple []])))
def XB:CN cx 174 lV:=λ_=>by kernel_rfl
def lW(p:Aa):IT:=
 .call 107 [S [98,114]] λa=>.fa p 1 λ_ b=>.store 12 b a (.call 150 [p] λ_=>.rr [.tuple []])
def XC:CN cx 175 lW:=λ_=>by kernel_rfl
def lX(p q:Aa):IT:=
 .cells 4 p λa=>.ie [g a 1,I 1] λb=>.Ah b (.call 241 [q,g a 2] λc=>.rr [c]) (.rr [ff])
def XD:Cu cx 176 lX:=λ_ _=>by kernel_rfl
def lY(p q:Aa):IT:=
 .cells 1 q λa=>.call 203 [p,.func (.func 242) [] [.A9 [g a 0]],.func (.func 204) [] []] λb=>.rr [b]
def XE:Cu cx 177 lY:=λ_ _=>by kernel_rfl
def lZ(p q:Aa):IT:=
 .cells 1 q λa=>.call 165 [p,g a 0] λb=>.il [b,I 0] λc=>.Ah c (.rr [I 0]) (.call 203 [p,.func (.func 204) [] [],.func (.func 244) [] [.A9 [g a 0]]] λd=>.rr [d])
def XF:Cu cx 178 lZ:=λ_ _=>by kernel_rfl
def eF(p q:Aa):IT:=
 .ie [p,I 3] λa=>.Ah a (.se [q,S kx] λb=>.Ah b (.rr [tt]) (.AW 245 [p,q] λc=>.rr [c])) (.ie [p,I 2] λd=>.Ah d (.se [q,S nu] λe=>.Ah e (.rr [tt]) (.se [q,S lf] λf=>.Ah f (.rr [tt]) (.se [q,S mf] λh=>.rr [h]))) (.ie [p,I 1] λj=>.Ah j (swv q (.rr [tt]) (.rr [ff]) JI) (.rr [ff])))
def Rr:Cu cx 179 eF:=λ_ _=>by kernel_rfl
def l8(p q:Aa):IT:=
 .cells 13 q λa=>.AN p 0 λ_ _ b=>.op (.Bn [I 0,I 0,.slnil,I 0,I 0,S [],.slnil,S [],S [],S [],ff,I 0,I 0] [(0,13)]) [cG a] λc=>.op (.BD 13) [c] λd=>.Dm 13 168 b d λe=>.fa p 0 λ_ f=>.store 1 f e (.AN p 0 λ_ _ h=>.ln [h] λj=>.rr [j])
def XG:Cu cx 182 l8:=λ_ _=>by kernel_rfl
def eG(p:Aa):IT:=
 .call 251 [.int .i32 9,.int .i32 10] λa=>.call 251 [.int .i32 12,.int .i32 13] λb=>.call 251 [.int .i32 32,.int .i32 32] λc=>.op (.BD 1) [a,b,c] λd=>.call 250 [d] λe=>.B7 e [p] λf=>.rr [f]
def Rs:CN cx 183 eG:=λ_=>by kernel_rfl
def l9(p q:Aa):IT:=
 .op (.BD 1) [q] λa=>.call 55 [p,a] λb=>.iq [b,I 0] λc=>.Ah c (.rr [b]) (.call 54 [p,q] λd=>.fa d 0 λ_ e=>.fl e 0 λ_ f=>.iq [f,I 1] λh=>.Ah h (.rr [I 9]) (.rr [I 0]))
def XH:Cu cx 184 l9:=λ_ _=>by kernel_rfl
def mA(p q r:Aa):IT:=
 .cells 13 r λa=>.call 184 [p,q] λb=>.iq [b,I 0] λc=>.Ah c (.rr [.tuple [I 0,b]]) (.cells 1 q λd=>.call 182 [p,.agg [g a 0,g a 1,g a 2,g d 0,g a 4,g a 5,g a 6,g a 7,g a 8,g a 9,g a 10,g a 11,g a 12]] λe=>.rr [.tuple [e,I 0]])
def XI:I9 cx 185 mA:=λ_ _ _=>by kernel_rfl
def mB(p q:Aa):IT:=
 .call 54 [p,q] λa=>.fa a 0 λ_ b=>.fl b 1 λ_ c=>.ie [c,I 0] λd=>.Ah d (.rr [.tuple []]) (.fa a 0 λ_ e=>.fl e 1 λ_ f=>.call 54 [p,f] λh=>.fa h 0 λ_ j=>.fl j 2 λ_ k=>.call 188 [k,q] λm=>.fa h 0 λ_ n=>.fl n 2 λ_ o=>.ia [m,I 1] λs=>.call 253 [o,m,s] λu=>.fa h 0 λ_ w=>.op (.CS 2) [w] λy=>.store 1 y u (.fa a 0 λ_ z=>.op (.CS 1) [z] λa0=>.store 1 a0 i0 (.rr [.tuple []])))
def XJ:Cu cx 187 mB:=λ_ _=>by kernel_rfl
def mC(p q:Aa):IT:=
 .ln [p] λa=>.loop 2 [I 0,I 0] (λb=>.il [g b 1,a] λc=>.Ah c (.ea 1 [p,g b 1] λd=>.ld d λe=>.ie [q,e] λf=>.Ah f (.rr [g b 1,g b 1]) (.ia [g b 1,I 1] λh=>.rn [g b 0,h])) (.rx 0 [g b 0,g b 1])) (lx 0 (λj=>.rr [I (-1)]) λj=>.rr [g j 0])
def XK:Cu cx 188 mC:=λ_ _=>by kernel_rfl
def mD(p q:Aa):IT:=
 .AW 256 [p] λa=>.AW 256 [q] λb=>.se [a,b] λc=>.rr [c]
def XL:Cu cx 190 mD:=λ_ _=>by kernel_rfl
def mE(p q:Aa):IT:=
 .fl q 3 λ_ a=>.lt [a] λb=>.lt [p] λc=>.ih [b,c] λd=>.Ah d (.fl q 3 λ_ e=>.lt [p] λf=>.op (.Ku 0 true false true) [e,f] λh=>.AW 190 [h,p] λj=>.rr [j]) (.rr [ff])
def XM:Cu cx 191 mE:=λ_ _=>by kernel_rfl
def mF(p q:Aa):IT:=
 .call 257 [p,q] λa=>.ih [a,I 0] λb=>.rr [b]
def XN:Cu cx 192 mF:=λ_ _=>by kernel_rfl
def eH(p q:Aa):IT:=
 .call 227 [q] λa=>.call 241 [a,p] λb=>.rr [b]
def Rt:Cu cx 193 eH:=λ_ _=>by kernel_rfl
def mG(p q:Aa):IT:=
 .op (.conv .u32) [q] λa=>.ik [a,.int .u32 127] λb=>.Ah b (.op (.conv .u8) [q] λc=>.op (.BD 1) [c] λd=>.Dm 1 1 p d λe=>.rr [e]) (.call 258 [p,q] λf=>.rr [f])
def XO:Cu cx 194 mG:=λ_ _=>by kernel_rfl
def mH(p q r:Aa):IT:=
 .op (.BD 1) [q] λa=>.call 55 [p,a] λb=>.iq [b,I 0] λc=>.Ah c (.rr [b]) (.call 54 [p,q] λd=>.fa d 0 λ_ e=>.fl e 0 λ_ f=>.iq [f,I 5] λh=>.Ah h (.fa d 0 λ_ j=>.fl j 0 λ_ k=>.iq [k,I 6] λm=>.Ah m (.rr [I 9]) (.fa d 0 λ_ n=>.op (.CS 7) [n] λo=>.store 1 o r (.rr [I 0]))) (.fa d 0 λ_ s=>.op (.CS 7) [s] λu=>.store 1 u r (.rr [I 0])))
def XP:I9 cx 195 mH:=λ_ _ _=>by kernel_rfl
def mI(p q r:Aa):IT:=
 .op (.Bn [I 0,I 0,.slnil,I 0,I 0,S [],.slnil,S [],S [],S [],ff,I 0,I 0] [(0,1),(7,1)]) [I 5,r] λa=>.call 185 [p,q,a] λb=>.op (.ext 0) [b] λc=>.op (.ext 1) [b] λd=>.rr [.tuple [c,d]]
def XQ:I9 cx 196 mI:=λ_ _ _=>by kernel_rfl
def mJ(p:Aa):IT:=
 .call 18 [p] λa=>.ib [a,I 1] λb=>.call 20 [p,b] λc=>.cells 4 c λd=>.rr [a4 d]
def XR:CN cx 197 mJ:=λ_=>by kernel_rfl
def mK(p q r:Aa):IT:=
 .cells 3 q λa=>.op (.Ku 3 false false true) [p,r] λb=>.op (.append 3 48) [.slnil,b] λc=>.op (.BD 3) [a3 a] λd=>.op (.append 3 48) [c,d] λe=>.op (.Ku 3 false true false) [p,r] λf=>.op (.append 3 48) [e,f] λh=>.rr [h]
def XS:I9 cx 198 mK:=λ_ _ _=>by kernel_rfl
def mL(p q:Aa):IT:=
 .cells 1 q λa=>.call 238 [p,.func (.func 259) [] [.A9 [g a 0]]] λb=>.rr [b]
def XT:Cu cx 199 mL:=λ_ _=>by kernel_rfl
def mM(p:Aa):IT:=
 .call 203 [p,.func (.func 260) [] [],.func (.func 204) [] []] λa=>.rr [a]
def XU:CN cx 200 mM:=λ_=>by kernel_rfl
def mN(p q:Aa):IT:=
 .cells 4 q λa=>.op (.Lh true) [p,.ptr none] λb=>.Ah b (.AN p 0 λ_ _ c=>.AN p 0 λ_ _ d=>.ln [d] λe=>.call 262 [c,a4 a,e] λf=>.fa p 0 λ_ h=>.store 1 h f (.rr [.tuple []])) (.rr [.tuple []])
def XV:Cu cx 201 mN:=λ_ _=>by kernel_rfl
def mO(p q:Aa):IT:=
 .call 165 [p,q] λa=>.il [a,I 1] λb=>.Ah b (.rr [ff]) (.AN p 0 λ_ _ c=>.call 263 [c,a] λd=>.fa p 0 λ_ e=>.store 1 e d (.rr [tt]))
def XW:Cu cx 202 mO:=λ_ _=>by kernel_rfl
end Go.Am
