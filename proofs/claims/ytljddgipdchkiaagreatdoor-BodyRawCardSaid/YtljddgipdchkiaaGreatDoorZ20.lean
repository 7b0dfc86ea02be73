/- Lemmas -/
import Derived.Test.YtljddgipdchkiaaGreatDoorZ9
import Derived.Test.YtljddgipdchkiaaGreatDoorZ17
set_option linter.all false
namespace Go.Am
open Go
def t70(p q r:Aa):IT:=
 .ca 146 [p] λa=>.nt [a] λb=>.AE b (.rr [.tuple []]) (.ie [r,I 0] λc=>.Dz 100014 (.AE c (.ca 171 [p,I 0] λd=>.op (.ext 0) [d] λe=>.op (.ext 1) [d] λf=>.rn [e,f]) (.rn [r,I 0])) (nx (λh=>.ca 172 [p,g h 0] λj=>.cells 13 j λk=>.Dz 200005 (.iq [g k 0,I 1] λm=>.AE m (.iq [g k 0,I 2] λn=>.AE n (.iq [g k 0,I 4] λo=>.rn [o]) (.rn [ff])) (.rn [ff])) (nx (λs=>.AE (g s 0) (.rr [.tuple []]) (.Bt p 0 λ_ _ u=>.ca 177 [u,g k 3,q] λw=>.op (.ext 0) [w] λy=>.op (.ext 1) [w] λz=>.ie [z,I 0] λa0=>.Dz 100048 (.AE a0 (.ca 159 [p,y,g h 0,g h 1] λ_=>.rn []) (.rn [])) (nx (λa1=>.rr [.tuple []]) λa1=>.rr [.tuple []]))) λs=>.rr [.tuple []])) λh=>.rr [.tuple []]))
def nB:LP cx 70 t70:=λ_ _ _=>AH
def t71(p q r:Aa):IT:=
 .cells 12 q λa=>.ca 146 [p] λb=>.AE b (.ca 65 [p,EI a] λ_=>.Bt p 4 λ_ _ c=>.fa p 18 λ_ d=>.store 1 d r (.fa p 5 λ_ e=>.store 1 e c (.fa p 4 λ_ f=>.store 1 f (I 8) (.rr [.tuple []])))) (.rr [.tuple []])
def ku:LP cx 71 t71:=λ_ _ _=>AH
def t72(p:Aa):IT:=
 .ca 146 [p] λa=>.AE a (.fa p 2 λ_ b=>.op (.BI 1) [S [112]] λc=>.ca 178 [b,I 3,c] λd=>.AE d (.fa p 2 λ_ e=>.ca 179 [e,S [112]] λ_=>.fa p 2 λ_ f=>.op (.BI 1) [S [112]] λh=>.ca 84 [f,h] λ_=>.rr [.tuple []]) (.rr [.tuple []])) (.rr [.tuple []])
def nC:Ek cx 72 t72:=λ_=>AH
def t73(p:Aa):IT:=
 .ca 146 [p] λa=>.nt [a] λb=>.AE b (.HE 3 p (.rr [.tuple []])) (.fa p 3 λ_ c=>.fl c 0 λ_ d=>.ln [d] λe=>.loop 2 [e] (λf=>.ig [g f 0,I 0] λh=>.AE h (.fa p 3 λ_ j=>.fl j 0 λ_ k=>.ib [g f 0,I 1] λm=>.ea 3 [k,m] λn=>.fl n 0 λ_ o=>.iq [o,I 0] λs=>.AE s (.fa p 2 λ_ u=>.fa p 3 λ_ w=>.fl w 0 λ_ y=>.ib [g f 0,I 1] λz=>.ea 3 [y,z] λa0=>.fl a0 0 λ_ a1=>.ca 180 [u,a1] λa2=>.il [a2,I 0] λa5=>.AE a5 (.ib [g f 0,I 1] λa7=>.rn [a7]) (.rx 0 [g f 0])) (.rx 0 [g f 0])) (.rx 0 [g f 0])) (lx 0 (λa8=>.fa p 3 λ_ b0=>.fl b0 0 λ_ b1=>.ca 181 [b1] λb2=>.fa p 3 λ_ b3=>.op (.EN 0) [b3] λb4=>.store 1 b4 b2 (.loop 5 [g a8 0] (λb5=>.fa p 3 λ_ b6=>.fl b6 0 λ_ b7=>.ln [b7] λb8=>.il [g b5 0,b8] λb9=>.AE b9 (.fa p 3 λ_ c0=>.fl c0 0 λc1 c2=>.fa p 3 λ_ c3=>.fl c3 0 λ_ c4=>.ea 3 [c4,g b5 0] λc5=>.load (some 3) c5 λc6=>.ca 182 [c6] λc8=>.ld c1 λc9=>.same c2 c9 (.ca 65 [p,c8] λd0=>.ld c1 λd1=>.same c2 d1 (.ea 3 [c2,g b5 0] λd2=>.op (.EN 0) [d2] λd3=>.store 1 d3 d0 (.ia [g b5 0,I 1] λd4=>.rn [d4])))) (.rx 2 [g b5 0])) (lx 2 (λd5=>.HE 3 p (.rr [.tuple []])) λd5=>.HE 3 p (.rr [.tuple []])))) λa8=>.HE 3 p (.rr [.tuple []])))
def kx:Ek cx 73 t73:=λ_=>AH
def t74(p q:Aa):IT:=
 .ca 146 [p] λa=>.nt [a] λb=>.AE b (.rr [.tuple []]) (.fa p 2 λ_ c=>.ca 183 [c] λd=>.ib [d,I 1] λe=>.loop 2 [e] (λf=>.ih [g f 0,I 0] λh=>.AE h (.fa p 2 λ_ j=>.ca 184 [j,g f 0] λk=>.cells 4 k λm=>.op (.BI 1) [q] λn=>.ca 162 [a4 m,n] λo=>.AE o (.fa p 2 λ_ s=>.ca 179 [s,q] λ_=>.fa p 2 λ_ u=>.ca 185 [u,g m 0] λ_=>.rr [g f 0]) (.Bk 186 [g m 1,g m 2] λw=>.AE w (.rr [g f 0]) (.ib [g f 0,I 1] λy=>.rn [y]))) (.rx 0 [g f 0])) (lx 0 (λz=>.rr [.tuple []]) λz=>.rr [.tuple []]))
def ky:DB cx 74 t74:=λ_ _=>AH
def t75(p q:Aa):IT:=
 .ca 146 [p] λa=>.nt [a] λb=>.AE b (.rr [.tuple []]) (.ca 187 [p] λc=>.cells 4 c λd=>.op (.BI 1) [q] λe=>.ca 162 [a4 d,e] λf=>.AE f (.fa p 3 λ_ h=>.ca 188 [h,g d 0] λj=>.il [j,I 0] λk=>.AE k (.fa p 2 λ_ m=>.ca 82 [m] λ_=>.rr [.tuple []]) (.loop 5 [I 0] (λn=>.il [g n 0,I 8] λo=>.AE o (.ca 189 [p,q] λs=>.nt [s] λu=>.AE u (.rr [g n 0]) (.ia [g n 0,I 1] λw=>.rn [w])) (.rx 0 [g n 0])) (lx 0 (λy=>.rr [.tuple []]) λy=>.rr [.tuple []]))) (.loop 5 [I 0] (λz=>.il [g z 0,I 8] λa0=>.AE a0 (.ca 189 [p,q] λa1=>.nt [a1] λa2=>.AE a2 (.rr [g z 0]) (.ia [g z 0,I 1] λa5=>.rn [a5])) (.rx 0 [g z 0])) (lx 0 (λa7=>.rr [.tuple []]) λa7=>.rr [.tuple []])))
def nD:DB cx 75 t75:=λ_ _=>AH
def t76(p:Aa):IT:=
 .ca 146 [p] λa=>.nt [a] λb=>.AE b (.rr [.tuple []]) (.fa p 4 λ_ c=>.store 1 c (I 7) (.fa p 2 λ_ d=>.ca 183 [d] λe=>.ib [e,I 1] λf=>.loop 3 [f] (λh=>.ih [g h 0,I 0] λj=>.AE j (.fa p 2 λ_ k=>.ca 184 [k,g h 0] λm=>.cells 4 m λn=>.ie [g h 0,I 0] λo=>.AE o (.Bt p 9 λ_ _ s=>.AE s (.fa p 10 λ_ u=>.load (some 4) u λw=>.cells 4 w λy=>.ca 190 [p,a4 y,g h 0] λz=>.op (.ext 0) [z] λa0=>.op (.ext 1) [z] λa1=>.AE a1 (.fa p 4 λ_ a2=>.store 1 a2 a0 (.rr [g h 0])) (.ib [g h 0,I 1] λa5=>.rn [a5])) (.ca 190 [p,a4 n,g h 0] λa7=>.op (.ext 0) [a7] λa8=>.op (.ext 1) [a7] λb0=>.AE b0 (.fa p 4 λ_ b1=>.store 1 b1 a8 (.rr [g h 0])) (.ib [g h 0,I 1] λb2=>.rn [b2]))) (.ca 190 [p,a4 n,g h 0] λb3=>.op (.ext 0) [b3] λb4=>.op (.ext 1) [b3] λb5=>.AE b5 (.fa p 4 λ_ b6=>.store 1 b6 b4 (.rr [g h 0])) (.ib [g h 0,I 1] λb7=>.rn [b7]))) (.rx 0 [g h 0])) (lx 0 (λb8=>.rr [.tuple []]) λb8=>.rr [.tuple []])))
def kz:Ek cx 76 t76:=λ_=>AH
def t77(p q r:Aa):IT:=
 .cells 12 q λa=>.ca 146 [p] λb=>.nt [b] λc=>.AE c (.rr [.tuple []]) (.ca 172 [p,r] λd=>.op (.part 0 none) [d] λe=>.iq [e,I 4] λf=>.AE f (.rr [.tuple []]) (.ca 172 [p,r] λh=>.op (.part 6 none) [h] λj=>.ln [g a 8] λk=>.loop 4 [j,I 0] (λm=>.il [g m 1,k] λn=>.AE n (.ea 3 [g a 8,g m 1] λo=>.load (some 3) o λs=>.cells 3 s λu=>.ca 191 [g m 0,.func (.func 192) [] [.Cq [g u 0,g u 1,g u 2]]] λw=>.nt [w] λy=>.AE y (.fl (.Cq [g u 0,g u 1,g u 2]) 1 λ_ z=>.fl (.Cq [g u 0,g u 1,g u 2]) 2 λ_ a0=>.op (.BF [I 0,S [],S []] [(1,1),(2,1)]) [z,a0] λa1=>.op (.BI 3) [a1] λa2=>.FN 3 40 (g m 0) a2 λa5=>.ia [g m 1,I 1] λa7=>.rn [a5,a7]) (.ia [g m 1,I 1] λa8=>.rn [g m 0,a8])) (.rx 0 [g m 0,g m 1])) (lx 0 (λb0=>.Bt p 0 λ_ _ b1=>.ca 193 [b1,r,g b0 0] λ_=>.rr [.tuple []]) λb0=>.rr [.tuple []])))
def nE:LP cx 77 t77:=λ_ _ _=>AH
def t78(p:Aa):IT:=
 .ca 146 [p] λa=>.nt [a] λb=>.AE b (.rr [.tuple []]) (.fa p 2 λ_ c=>.ca 194 [c,S aWb] λd=>.il [d,I 0] λe=>.AE e (.rr [.tuple []]) (.fa p 2 λ_ f=>.ca 195 [f] λ_=>.fa p 2 λ_ h=>.op (.BI 1) [S aWb] λj=>.ca 84 [h,j] λ_=>.fa p 3 λ_ k=>.ca 83 [k] λ_=>.Bt p 6 λ_ _ m=>.ln [m] λn=>.ig [n,I 0] λo=>.AE o (.Bt p 6 λ_ _ s=>.ib [n,I 1] λu=>.op (.HO 1 false false true) [s,u] λw=>.ca 118 [w] λy=>.fa p 6 λ_ z=>.store 1 z y (.ca 76 [p] λ_=>.rr [.tuple []])) (.ca 76 [p] λ_=>.rr [.tuple []])))
def bN:Ek cx 78 t78:=λ_=>AH
def t79(p:Aa):IT:=
 .ca 146 [p] λa=>.AE a (.fa p 19 λ_ b=>.store 1 b tt (.rr [.tuple []])) (.rr [.tuple []])
def k_:Ek cx 79 t79:=λ_=>AH
def t80(p:Aa):IT:=
 .op (.Rq true) [p,.ptr none] λa=>.AE a (.Bt p 0 λ_ _ b=>.op (.BF [I 0,S [],.slnil] []) [] λc=>.Bt p 0 λ_ _ d=>.ln [d] λe=>.ca 196 [b,c,e] λf=>.fa p 0 λ_ h=>.store 1 h f (.rr [.tuple []])) (.rr [.tuple []])
def la:Ek cx 80 t80:=λ_=>AH
def t81(p:Aa):IT:=
 .cells 4 p λa=>.op (.BF [I 0,I 0,S [],ff] [(0,1),(1,1),(2,1),(3,1)]) [g a 0,g a 1,g a 2,g a 3] λb=>.cells 4 b λc=>.rr [a4 c]
def aBF:Ek cx 81 t81:=λ_=>AH
def t82(p:Aa):IT:=
 .ca 183 [p] λa=>.il [a,I 2] λb=>.AE b (.op (.BF [I 0,I 0,S [],ff] []) [] λc=>.cells 4 c λd=>.rr [a4 d]) (.ca 197 [p] λe=>.cells 4 e λf=>.Bt p 0 λ_ _ h=>.Bt p 0 λ_ _ j=>.ln [j] λk=>.ib [k,I 1] λm=>.op (.HO 4 false false true) [h,m] λn=>.fa p 0 λ_ o=>.store 1 o n (.cells 4 (a4 f) λs=>.rr [a4 s]))
def bO:Ek cx 82 t82:=λ_=>AH
def t83(p:Aa):IT:=
 .op (.Rq false) [p,.ptr none] λa=>.AE a (.rr [I 0]) (.Bt p 0 λ_ _ b=>.ln [b] λc=>.Bt p 0 λ_ d e=>.ca 198 [p] λf=>.ld d λh=>.same e h (.ib [f,I 1] λj=>.op (.Lq true) [j,I 0] λk=>.op (.HO 3 false false true) [e,k] λm=>.fa p 0 λ_ n=>.store 1 n m (.Bt p 0 λ_ _ o=>.ln [o] λs=>.ib [c,s] λu=>.rr [u])))
def lf:Ek cx 83 t83:=λ_=>AH
def t84(p q:Aa):IT:=
 .cells 1 q λa=>.ca 199 [p,.func (.func 200) [] [],.func (.func 201) [] [.Cq [g a 0]]] λb=>.rr [b]
def lg:DB cx 84 t84:=λ_ _=>AH
def t85(p q r u:Aa):IT:=
 .cells 12 q λa=>.Dz 200001 (.ca 146 [p] λb=>.nt [b] λc=>.AE c (.rn [tt]) (.il [r,I 0] λd=>.AE d (.rn [tt]) (.ig [r,I 7] λe=>.rn [e]))) (nx (λf=>.AE (g f 0) (.op (.BF [I 0,I 0,S [],ff] []) [] λh=>.cells 4 h λj=>.rr [a4 j]) (.ca 203 [r,g a 8] λk=>.ie [r,I 2] λm=>.Dz 100032 (.AE m (.Bk 204 [g a 1] λn=>.rn [n]) (.rn [g a 1])) (nx (λo=>.Bt p 0 λ_ s w=>.ca 206 [p,u] λy=>.ld s λz=>.same w z (.ca 205 [w,y,r,g o 0,k] λa0=>.op (.ext 0) [a0] λa1=>.op (.ext 1) [a0] λa2=>.iq [a2,I 0] λa5=>.AE a5 (.op (.BF [I 0,I 0,S [],ff] []) [] λa7=>.cells 4 a7 λa8=>.rr [a4 a8]) (.ca 161 [r,g o 0,k] λb0=>.op (.BF [I 0,I 0,S [],ff] [(0,1),(1,1),(2,1),(3,1)]) [a1,r,g o 0,b0] λb1=>.cells 4 b1 λb2=>.rr [a4 b2]))) λo=>.rr [.agg [I 0,I 0,S [],ff]]))) λf=>.rr [.agg [I 0,I 0,S [],ff]])
def nF:qm cx 85 t85:=λ_ _ _ _=>AH
def t86(p q:Aa):IT:=
 .cells 12 q λa=>.ca 87 [p,EI a,I 1] λb=>.rr [b]
def aBG:DB cx 86 t86:=λ_ _=>AH
def t87(p q r:Aa):IT:=
 .cells 12 q λa=>.Bk 207 [r] λb=>.nt [b] λc=>.AE c (.rr [I 0]) (.ca 208 [p,I 0] λd=>.op (.ext 0) [d] λe=>.op (.ext 1) [d] λf=>.ca 104 [p,EI a,r,e] λh=>.cells 4 h λj=>.ca 166 [p,e,g j 0,f] λ_=>.Bt p 2 λ_ _ k=>.op (.append 4 40) [.slnil,k] λm=>.op (.BI 4) [a4 j] λn=>.op (.append 4 40) [m,n] λo=>.fa p 2 λ_ s=>.store 1 s o (.rr [g j 0]))
def lj:LP cx 87 t87:=λ_ _ _=>AH
def t88(p q:Aa):IT:=
 .cells 12 q λa=>.ca 86 [p,EI a] λb=>.Bt p 3 λ_ _ c=>.op (.BF [I 0,S [],.slnil] [(0,1),(1,1),(2,1)]) [b,g a 1,g a 8] λd=>.ca 137 [c,d] λe=>.fa p 3 λ_ f=>.store 1 f e (.rr [b])
def aBH:DB cx 88 t88:=λ_ _=>AH
def t89(p q:Aa):IT:=
 .ca 208 [p,I 0] λa=>.op (.ext 0) [a] λb=>.op (.ext 1) [a] λc=>.ca 209 [p,b] λd=>.Dz 200002 (.iq [d,I 4] λe=>.AE e (.iq [d,I 2] λf=>.rn [f]) (.rn [ff])) (nx (λh=>.AE (g h 0) (.rr [.tuple []]) (.Bk 210 [q] λj=>.nt [j] λk=>.Dz 100028 (.AE k (.rn [.int .i32 65533]) (.rn [q])) (nx (λm=>.ca 211 [g m 0] λn=>.LK n λo=>.op .Ux [o] λs=>.Bt p 0 λ_ _ u=>.ca 212 [u,b] λw=>.ln [w] λy=>.iq [c,I 0] λz=>.Dz 100041 (.AE z (.ca 213 [w,c] λa0=>.rn [a0]) (.rn [y])) (nx (λa1=>.Dz 200010 (.ig [g a1 0,I 0] λa2=>.AE a2 (.ib [g a1 0,I 1] λa5=>.ea 1 [w,a5] λa7=>.ld a7 λa8=>.ca 209 [p,a8] λb0=>.ie [b0,I 5] λb1=>.rn [b1]) (.rn [ff])) (nx (λb2=>.AE (g b2 0) (.Bt p 0 λ_ _ b3=>.Bt b3 0 λ_ _ b4=>.ib [g a1 0,I 1] λb5=>.ea 1 [w,b5] λb6=>.ld b6 λb7=>.ea 13 [b4,b7] λb8=>.fl b8 7 λ_ b9=>.op (.str .add) [b9,s] λc0=>.ea 13 [b4,b7] λc1=>.op (.EN 7) [c1] λc2=>.store 1 c2 c0 (.rr [.tuple []])) (.Bt p 0 λ_ c3 c4=>.op (.BF [I 0,I 0,.slnil,I 0,I 0,S [],.slnil,S [],S [],S [],ff,I 0,I 0] [(0,1),(7,1)]) [I 5,s] λc5=>.ca 214 [p,b] λc7=>.ld c3 λc8=>.same c4 c8 (.ca 128 [c4,c7,c5] λd0=>.op (.ext 0) [d0] λd1=>.op (.ext 1) [d0] λ_=>.ca 166 [p,b,d1,c] λ_=>.rr [.tuple []]))) λb2=>.rr [.tuple []])) λa1=>.rr [.tuple []])) λm=>.rr [.tuple []]))) λh=>.rr [.tuple []])
def bP:DB cx 89 t89:=λ_ _=>AH
def t90(p q r:Aa):IT:=
 .ie [r,I 0] λa=>.Dz 100011 (.AE a (.ca 208 [p,I 0] λb=>.op (.ext 0) [b] λc=>.op (.ext 1) [b] λd=>.rn [c,d]) (.rn [r,I 0])) (nx (λe=>.ca 209 [p,g e 0] λf=>.Dz 200004 (.iq [f,I 1] λh=>.AE h (.iq [f,I 2] λj=>.AE j (.iq [f,I 4] λk=>.rn [k]) (.rn [ff])) (.rn [ff])) (nx (λm=>.AE (g m 0) (.rr [.tuple []]) (.Bt p 0 λ_ n o=>.op (.BF [I 0,I 0,.slnil,I 0,I 0,S [],.slnil,S [],S [],S [],ff,I 0,I 0] [(0,1),(7,1)]) [I 6,q] λs=>.ca 214 [p,g e 0] λu=>.ld n λw=>.same o w (.ca 128 [o,u,s] λy=>.op (.ext 0) [y] λz=>.op (.ext 1) [y] λ_=>.ca 166 [p,g e 0,z,g e 1] λ_=>.rr [.tuple []]))) λm=>.rr [.tuple []])) λe=>.rr [.tuple []])
def lp:LP cx 90 t90:=λ_ _ _=>AH
def t91(p q r:Aa):IT:=
 .cells 12 q λa=>.ca 86 [p,EI a] λ_=>.fa p 18 λ_ b=>.store 1 b r (.Bt p 4 λ_ _ c=>.fa p 5 λ_ d=>.store 1 d c (.fa p 4 λ_ e=>.store 1 e (I 8) (.rr [.tuple []])))
def aBI:LP cx 91 t91:=λ_ _ _=>AH
def t92(p:Aa):IT:=
 .Bt p 2 λ_ _ a=>.op (.BI 1) [S [112]] λb=>.ca 215 [a,I 3,b] λc=>.AE c (.Bt p 2 λ_ _ d=>.ca 216 [d,S [112],ff] λe=>.fa p 2 λ_ f=>.store 1 f e (.Bt p 2 λ_ _ h=>.op (.BI 1) [S [112]] λj=>.ca 103 [h,j] λk=>.fa p 2 λ_ m=>.store 1 m k (.rr [.tuple []]))) (.rr [.tuple []])
def lq:Ek cx 92 t92:=λ_=>AH
def t93(p:Aa):IT:=
 .Bt p 3 λ_ _ a=>.ln [a] λb=>.loop 1 [b] (λc=>.ig [g c 0,I 0] λd=>.AE d (.Bt p 3 λ_ _ e=>.ib [g c 0,I 1] λf=>.ea 3 [e,f] λh=>.load (some 3) h λj=>.ca 217 [p,j] λk=>.nt [k] λm=>.AE m (.ib [g c 0,I 1] λn=>.rn [n]) (.rx 0 [g c 0])) (.rx 0 [g c 0])) (lx 0 (λo=>.Bt p 3 λ_ _ s=>.HR 3 48 .slnil s λu=>.loop 4 [g o 0] (λw=>.ln [u] λy=>.il [g w 0,y] λz=>.AE z (.ea 3 [u,g w 0] λa0=>.fl a0 1 λ_ a1=>.ea 3 [u,g w 0] λa2=>.fl a2 2 λ_ a5=>.op (.BF [I 0,S [],ff,S [],ff,S [],ff,ff,.slnil,ff,S [],.int .i32 0] [(0,1),(1,1),(8,1)]) [I 2,a1,a5] λa7=>.ca 86 [p,a7] λa8=>.ea 3 [u,g w 0] λb0=>.op (.EN 0) [b0] λb1=>.store 1 b1 a8 (.ia [g w 0,I 1] λb2=>.rn [b2])) (.rx 2 [g w 0])) (lx 2 (λb3=>.fa p 3 λ_ b4=>.store 1 b4 u (.HE 3 p (.rr [.tuple []]))) λb3=>.HE 3 p (.rr [.tuple []]))) λo=>.HE 3 p (.rr [.tuple []]))
def aBJ:Ek cx 93 t93:=λ_=>AH
def t94(p q:Aa):IT:=
 .Bt p 2 λ_ _ a=>.ln [a] λb=>.ib [b,I 1] λc=>.loop 1 [c] (λd=>.ih [g d 0,I 0] λe=>.AE e (.Bt p 2 λ_ _ f=>.ea 4 [f,g d 0] λh=>.load (some 4) h λj=>.cells 4 j λk=>.op (.BI 1) [q] λm=>.ca 218 [a4 k,m] λn=>.AE n (.Bt p 2 λ_ _ o=>.ca 216 [o,q,ff] λs=>.fa p 2 λ_ u=>.store 1 u s (.Bt p 2 λ_ _ w=>.ca 219 [w,g k 0] λy=>.fa p 2 λ_ z=>.store 1 z y (.rr [g d 0]))) (.Bk 220 [g k 1,g k 2] λa0=>.AE a0 (.rr [g d 0]) (.ib [g d 0,I 1] λa1=>.rn [a1]))) (.rx 0 [g d 0])) (lx 0 (λa2=>.rr [.tuple []]) λa2=>.rr [.tuple []])
def aBK:DB cx 94 t94:=λ_ _=>AH
def t95(p q:Aa):IT:=
 .op (.BI 1) [q] λa=>.ca 221 [p] λb=>.ca 218 [b,a] λc=>.AE c (.Bt p 3 λ_ d e=>.ca 221 [p] λf=>.ld d λh=>.same e h (.op (.part 0 none) [f] λj=>.ca 222 [e,j] λk=>.il [k,I 0] λm=>.AE m (.Bt p 2 λ_ _ n=>.ca 223 [n] λo=>.fa p 2 λ_ s=>.store 1 s o (.rr [.tuple []])) (.loop 3 [I 1] (λu=>.ik [g u 0,I 8] λw=>.AE w (.ca 224 [p,q] λy=>.nt [y] λz=>.AE z (.rr [g u 0]) (.ia [g u 0,I 1] λa0=>.rn [a0])) (.rx 0 [g u 0])) (lx 0 (λa1=>.rr [.tuple []]) λa1=>.rr [.tuple []])))) (.loop 3 [I 1] (λa2=>.ik [g a2 0,I 8] λa5=>.AE a5 (.ca 224 [p,q] λa7=>.nt [a7] λa8=>.AE a8 (.rr [g a2 0]) (.ia [g a2 0,I 1] λb0=>.rn [b0])) (.rx 0 [g a2 0])) (lx 0 (λb1=>.rr [.tuple []]) λb1=>.rr [.tuple []]))
def ls:DB cx 95 t95:=λ_ _=>AH
def t96(p:Aa):IT:=
 .Bt p 2 λ_ _ a=>.ln [a] λb=>.ib [b,I 1] λc=>.loop 1 [c] (λd=>.ih [g d 0,I 0] λe=>.AE e (.Bt p 2 λ_ _ f=>.ea 4 [f,g d 0] λh=>.load (some 4) h λj=>.ie [g d 0,I 0] λk=>.cells 4 j λm=>.AE k (.Bt p 9 λ_ _ n=>.AE n (.fa p 10 λ_ o=>.load (some 4) o λs=>.cells 4 s λu=>.ca 225 [p,a4 u,g d 0,k] λw=>.op (.ext 0) [w] λy=>.op (.ext 1) [w] λz=>.AE z (.fa p 4 λ_ a0=>.store 1 a0 y (.rr [g d 0])) (.ib [g d 0,I 1] λa1=>.rn [a1])) (.ca 225 [p,a4 m,g d 0,k] λa2=>.op (.ext 0) [a2] λa5=>.op (.ext 1) [a2] λa7=>.AE a7 (.fa p 4 λ_ a8=>.store 1 a8 a5 (.rr [g d 0])) (.ib [g d 0,I 1] λb0=>.rn [b0]))) (.ca 225 [p,a4 m,g d 0,k] λb1=>.op (.ext 0) [b1] λb2=>.op (.ext 1) [b1] λb3=>.AE b3 (.fa p 4 λ_ b4=>.store 1 b4 b2 (.rr [g d 0])) (.ib [g d 0,I 1] λb5=>.rn [b5]))) (.rx 0 [g d 0])) (lx 0 (λb6=>.fa p 4 λ_ b7=>.store 1 b7 (I 7) (.rr [.tuple []])) λb6=>.rr [.tuple []])
def aBL:Ek cx 96 t96:=λ_=>AH
def t97(p q r:Aa):IT:=
 .cells 12 q λa=>.ca 209 [p,r] λb=>.iq [b,I 4] λc=>.AE c (.rr [.tuple []]) (.Bt p 0 λ_ _ d=>.Bt d 0 λ_ _ e=>.ea 13 [e,r] λf=>.fl f 6 λ_ h=>.op (.append 3 40) [.slnil,h] λj=>.loop 4 [j,I 0] (λk=>.ln [g a 8] λm=>.il [g k 1,m] λn=>.AE n (.ea 3 [g a 8,g k 1] λo=>.fl o 1 λ_ s=>.ea 3 [g a 8,g k 1] λu=>.fl u 2 λ_ w=>.op (.BF [I 0,S [],S []] [(1,1),(2,1)]) [s,w] λy=>.op (.BI 3) [y] λz=>.op (.append 3 40) [g k 0,z] λa0=>.ia [g k 1,I 1] λa1=>.rn [a0,a1]) (.rx 0 [g k 0,g k 1])) (lx 0 (λa2=>.Bt p 0 λ_ _ a5=>.ca 226 [a5,r,g a2 0] λ_=>.rr [.tuple []]) λa2=>.rr [.tuple []]))
def ly:LP cx 97 t97:=λ_ _ _=>AH
def t98(p:Aa):IT:=
 .Bt p 2 λ_ _ a=>.ca 142 [a,S aWb] λb=>.il [b,I 0] λc=>.AE c (.rr [.tuple []]) (.Bt p 2 λ_ _ d=>.ca 216 [d,S [],tt] λe=>.fa p 2 λ_ f=>.store 1 f e (.Bt p 2 λ_ _ h=>.op (.BI 1) [S aWb] λj=>.ca 103 [h,j] λk=>.fa p 2 λ_ m=>.store 1 m k (.Bt p 3 λ_ _ n=>.ca 102 [n] λo=>.fa p 3 λ_ s=>.store 1 s o (.Bt p 6 λ_ _ u=>.ln [u] λw=>.ig [w,I 0] λy=>.AE y (.Bt p 6 λ_ _ z=>.Bt p 6 λ_ _ a0=>.ln [a0] λa1=>.ib [a1,I 1] λa2=>.op (.HO 1 false false true) [z,a2] λa5=>.op (.append 1 8) [.slnil,a5] λa7=>.fa p 6 λ_ a8=>.store 1 a8 a7 (.ca 96 [p] λ_=>.rr [.tuple []])) (.ca 96 [p] λ_=>.rr [.tuple []])))))
def nG:Ek cx 98 t98:=λ_=>AH
def t99(p:Aa):IT:=
 .fa p 19 λ_ a=>.store 1 a tt (.rr [.tuple []])
def aBM:Ek cx 99 t99:=λ_=>AH
def aGr(p q r:Aa):IT:=
 .cells 3 q λa=>.il [r,I 0] λb=>.AE b (.ln [p] λc=>.ig [I 0,c] λd=>.AE d (.ln [p] λe=>.op (.HO 3 false false true) [p,e] λf=>.op (.append 3 48) [.slnil,f] λh=>.ca 227 [a3 a] λj=>.op (.BI 3) [j] λk=>.op (.append 3 48) [h,k] λm=>.op (.HO 3 false true false) [p,e] λn=>.op (.append 3 48) [m,n] λo=>.rr [o]) (.op (.HO 3 false false true) [p,I 0] λs=>.op (.append 3 48) [.slnil,s] λu=>.ca 227 [a3 a] λw=>.op (.BI 3) [w] λy=>.op (.append 3 48) [u,y] λz=>.op (.HO 3 false true false) [p,I 0] λa0=>.op (.append 3 48) [z,a0] λa1=>.rr [a1])) (.ln [p] λa2=>.ig [r,a2] λa5=>.AE a5 (.ln [p] λa7=>.op (.HO 3 false false true) [p,a7] λa8=>.op (.append 3 48) [.slnil,a8] λb0=>.ca 227 [a3 a] λb1=>.op (.BI 3) [b1] λb2=>.op (.append 3 48) [b0,b2] λb3=>.op (.HO 3 false true false) [p,a7] λb4=>.op (.append 3 48) [b3,b4] λb5=>.rr [b5]) (.op (.HO 3 false false true) [p,r] λb6=>.op (.append 3 48) [.slnil,b6] λb7=>.ca 227 [a3 a] λb8=>.op (.BI 3) [b8] λb9=>.op (.append 3 48) [b7,b9] λc1=>.op (.HO 3 false true false) [p,r] λc2=>.op (.append 3 48) [c1,c2] λc3=>.rr [c3]))
def vi:LP cx 100 aGr:=λ_ _ _=>AH
def aBN(p:Aa):IT:=
 .Bt p 2 λ_ _ a=>.ln [a] λb=>.il [b,I 2] λc=>.AE c (.op (.BF [I 0,I 0,S [],ff] []) [] λd=>.cells 4 d λe=>.rr [a4 e]) (.ca 221 [p] λf=>.cells 4 f λh=>.Bt p 2 λ_ _ j=>.ca 223 [j] λk=>.fa p 2 λ_ m=>.store 1 m k (.cells 4 (a4 h) λn=>.rr [a4 n]))
def q6:Ek cx 101 aBN:=λ_=>AH
def aGs(p:Aa):IT:=
 .ca 228 [p] λa=>.ib [a,I 1] λb=>.il [b,I 0] λc=>.AE c (.op (.HO 3 false false true) [p,I 0] λd=>.op (.append 3 48) [.slnil,d] λe=>.rr [e]) (.op (.HO 3 false false true) [p,b] λf=>.op (.append 3 48) [.slnil,f] λh=>.rr [h])
def vj:Ek cx 102 aGs:=λ_=>AH
def aGt(p q:Aa):IT:=
 .ln [p] λa=>.ib [a,I 1] λb=>.loop 2 [.slnil,b] (λc=>.ih [g c 1,I 0] λd=>.AE d (.ea 4 [p,g c 1] λe=>.load (some 4) e λf=>.ca 218 [f,q] λh=>.AE h (.ca 229 [p,g c 1] λj=>.rr [j,g c 1]) (.ib [g c 1,I 1] λk=>.rn [g c 0,k])) (.rx 0 [g c 0,g c 1])) (lx 0 (λm=>.ca 229 [p,I 1] λn=>.LK n λo=>.rr [o]) λm=>.LK (g m 0) λs=>.rr [s])
def vn:DB cx 103 aGt:=λ_ _=>AH
def aBO(p q r u:Aa):IT:=
 .cells 12 q λa=>.Bk 207 [r] λb=>.nt [b] λc=>.AE c (.op (.BF [I 0,I 0,S [],ff] []) [] λd=>.cells 4 d λe=>.rr [a4 e]) (.ca 230 [r,g a 8] λf=>.ie [r,I 2] λh=>.Dz 100024 (.AE h (.Bk 231 [g a 1] λj=>.rn [j]) (.rn [g a 1])) (nx (λk=>.ca 232 [p,u,S aWb] λm=>.Dz 100029 (.AE m (.Bt p 0 λ_ _ n=>.Bt n 0 λ_ _ o=>.ea 13 [o,u] λs=>.fl s 11 λ_ w=>.rn [w]) (.rn [u])) (nx (λy=>.Bt p 0 λ_ z a0=>.ca 214 [p,g y 0] λa1=>.ld z λa2=>.same a0 a2 (.ca 165 [a0,a1,r,g k 0,f] λa5=>.op (.ext 0) [a5] λa7=>.op (.ext 1) [a5] λ_=>.ca 167 [r,g k 0,f] λa8=>.op (.BF [I 0,I 0,S [],ff] [(0,1),(1,1),(2,1),(3,1)]) [a7,r,g k 0,a8] λb0=>.cells 4 b0 λb1=>.rr [a4 b1])) λy=>.rr [.agg [I 0,I 0,S [],ff]])) λk=>.rr [.agg [I 0,I 0,S [],ff]]))
def q7:qm cx 104 aBO:=λ_ _ _ _=>AH
def aBP(p q:Aa):IT:=
 .cells 12 q λa=>.op (.Rq true) [p,.ptr none] λb=>.AE b (.Bt p 0 λ_ _ c=>.op (.Rq true) [c,.ptr none] λd=>.AE d (.ih [g a 0,I 1] λe=>.AE e (.ik [g a 0,I 6] λf=>.rr [f]) (.rr [ff])) (.rr [ff])) (.rr [ff])
def q8:DB cx 105 aBP:=λ_ _=>AH
def aGu:IT:=
 .Nf λa=>.mem .Uw [a,I 1,.func (.func 28) [] []] λ_=>.mem .Uw [a,I 2,.func (.func 29) [] []] λ_=>.mem .Uw [a,I 3,.func (.func 30) [] []] λ_=>.mem .Uw [a,I 4,.func (.func 31) [] []] λ_=>.mem .Uw [a,I 5,.func (.func 32) [] []] λ_=>.mem .Uw [a,I 6,.func (.func 33) [] []] λ_=>.mem .Uw [a,I 7,.func (.func 34) [] []] λ_=>.mem .Uw [a,I 8,.func (.func 35) [] []] λ_=>.mem .Uw [a,I 18,.func (.func 36) [] []] λ_=>.rr [a]
def vo:Cd cx 106 []=aGu:=AH
def aGv(p:Aa):IT:=
 .cells 12 p λa=>.ie [g a 0,I 5] λb=>.AE b (.Bk 233 [g a 11] λc=>.rr [c]) (.rr [ff])
def vp:Ek cx 107 aGv:=λ_=>AH
def aGw(p q r:Aa):IT:=
 .ca 234 [p,q] λa=>.iq [a,I 0] λb=>.AE b (.rr [a]) (.ca 153 [p,q] λc=>.fa c 0 λ_ d=>.op (.EN 10) [d] λe=>.store 1 e r (.rr [I 0]))
def vq:LP cx 108 aGw:=λ_ _ _=>AH
def t109(p q:Aa):IT:=
 .fa p 4 λ_ a=>.store 1 a q (.rr [tt])
def q9:DB cx 109 t109:=λ_ _=>AH
def aGx(p q r u w:Aa):IT:=
 .op (.BF [I 0,I 0,.slnil,I 0,I 0,S [],.slnil,S [],S [],S [],ff,I 0,I 0] [(0,1),(5,1),(8,1),(9,1)]) [I 3,r,u,w] λa=>.ca 235 [p,q,a] λb=>.op (.ext 0) [b] λc=>.op (.ext 1) [b] λd=>.rr [.tuple [c,d]]
def vr:Tq5 cx 110 aGx:=λ_ _ _ _ _=>AH
def bQ(p q r u:Aa):IT:=
 .op (.BI 1) [q,r] λa=>.ca 236 [p,a] λb=>.iq [b,I 0] λc=>.AE c (.rr [b]) (.Dz 200004 (.iq [u,I 0] λd=>.AE d (.ca 54 [p,u] λe=>.nt [e] λf=>.rn [f]) (.rn [ff])) (nx (λh=>.AE (g h 0) (.rr [I 3]) (.ca 153 [p,q] λj=>.ca 153 [p,r] λk=>.Dz 200007 (.fa j 0 λ_ m=>.fl m 0 λ_ n=>.iq [n,I 1] λo=>.AE o (.fa j 0 λ_ s=>.fl s 0 λ_ w=>.iq [w,I 2] λy=>.AE y (.fa j 0 λ_ z=>.fl z 0 λ_ a0=>.iq [a0,I 4] λa1=>.rn [a1]) (.rn [ff])) (.rn [ff])) (λx a2=>match x with| .normal=>.AE (g a2 0) (.rr [I 4]) (.fa k 0 λ_ a5=>.fl a5 0 λ_ a7=>.ie [a7,I 1] λa8=>.AE a8 (.rr [I 4]) (.fa k 0 λ_ b0=>.fl b0 0 λ_ b1=>.ie [b1,I 2] λb2=>.AE b2 (.rr [I 4]) (.ca 237 [p,r,q] λb3=>.AE b3 (.rr [I 4]) (.Dz 200012 (.iq [u,I 0] λb4=>.AE b4 (.ie [u,r] λb5=>.AE b5 (.rn [tt]) (.ca 153 [p,u] λb6=>.fa b6 0 λ_ b7=>.fl b7 1 λ_ b8=>.iq [b8,q] λb9=>.rn [b9])) (.rn [ff])) (λx c0=>match x with| .normal=>.AE (g c0 0) (.rr [I 5]) (.ca 238 [p,r] λ_=>.fa j 0 λ_ c1=>.fl c1 2 λ_ c2=>.ln [c2] λc3=>.iq [u,I 0] λc4=>.Dz 100103 (.AE c4 (.fa j 0 λ_ c5=>.fl c5 2 λ_ c7=>.ca 173 [c7,u] λc8=>.rn [c8]) (.rn [c3])) (nx (λc9=>.fa j 0 λ_ d0=>.fl d0 2 λ_ d1=>.op (.BI 1) [r] λd2=>.mem .wS [d1,g c9 0,d2] λd3=>.fa j 0 λ_ d4=>.op (.EN 2) [d4] λd5=>.store 1 d5 d3 (.fa k 0 λ_ d6=>.op (.EN 1) [d6] λd7=>.store 1 d7 q (.rr [I 0]))) λc9=>.rr [I 0]))| .exit i=>if i=0 then .ca 238 [p,r] λ_=>.fa j 0 λ_ d8=>.fl d8 2 λ_ d9=>.ln [d9] λe0=>.iq [u,I 0] λe1=>.Dz 100103 (.AE e1 (.fa j 0 λ_ e2=>.fl e2 2 λ_ e3=>.ca 173 [e3,u] λe4=>.rn [e4]) (.rn [e0])) (nx (λe5=>.fa j 0 λ_ e6=>.fl e6 2 λ_ e7=>.op (.BI 1) [r] λe8=>.mem .wS [e7,g e5 0,e8] λe9=>.fa j 0 λ_ f0=>.op (.EN 2) [f0] λf1=>.store 1 f1 e9 (.fa k 0 λ_ f2=>.op (.EN 1) [f2] λf3=>.store 1 f3 q (.rr [I 0]))) λe5=>.rr [I 0]) else .fail| .ret=>.rr [I 0])))))| .exit i=>if i=0 then .ca 238 [p,r] λ_=>.fa j 0 λ_ f4=>.fl f4 2 λ_ f5=>.ln [f5] λf6=>.iq [u,I 0] λf7=>.Dz 100103 (.AE f7 (.fa j 0 λ_ f8=>.fl f8 2 λ_ f9=>.ca 173 [f9,u] λh0=>.rn [h0]) (.rn [f6])) (nx (λh1=>.fa j 0 λ_ h2=>.fl h2 2 λ_ h3=>.op (.BI 1) [r] λh4=>.mem .wS [h3,g h1 0,h4] λh5=>.fa j 0 λ_ h6=>.op (.EN 2) [h6] λh7=>.store 1 h7 h5 (.fa k 0 λ_ h8=>.op (.EN 1) [h8] λh9=>.store 1 h9 q (.rr [I 0]))) λh1=>.rr [I 0]) else .fail| .ret=>.rr [I 0]))) λh=>.rr [I 0]))
def MS:qm cx 111 bQ:=λ_ _ _ _=>AH
def aGy(p:Aa):IT:=
 .cells 12 p λa=>.iq [g a 0,I 1] λb=>.AE b (.rr [ff]) (.AE (g a 7) (.rr [tt]) (.nt [g a 2] λc=>.AE c (.rr [tt]) (.op (.str .neq) [g a 1,S aWh] λd=>.AE d (.rr [tt]) (.nt [g a 4] λe=>.AE e (.rr [ff]) (.op (.BI 1) [S [45,47,47,87,51,79,47,47,68,84,68,32,87,51,32,72,84,77,76,32,83,116,114,105,99,116,32,51,46,48,47,47,69,78,47,47],S [45,47,87,51,67,47,68,84,68,32,72,84,77,76,32,52,46,48,32,84,114,97,110,115,105,116,105,111,110,97,108,47,69,78],S [72,84,77,76]] λf=>.ln [f] λh=>.loop 8 [ff,I 0] (λj=>.il [g j 1,h] λk=>.AE k (.ea 1 [f,g j 1] λm=>.ld m λn=>.Bk 240 [g a 3,n] λo=>.AE o (.rr [tt,g j 1]) (.ia [g j 1,I 1] λs=>.rn [g j 0,s])) (.rx 0 [g j 0,g j 1])) (lx 0 (λu=>.fl (.Cq [g a 0,g a 1,g a 2,g a 3,g a 4,g a 5,g a 6,g a 7,g a 8,g a 9,g a 10,g a 11]) 6 λ_ w=>.nt [w] λy=>.AE y (.Es (.func (.func 241) [] [.Cq [g a 0,g a 1,g a 2,g a 3,g a 4,g a 5,g a 6,g a 7,g a 8,g a 9,g a 10,g a 11]]) [S [45,47,47,87,51,67,47,47,68,84,68,32,72,84,77,76,32,52,46,48,49,32,70,114,97,109,101,115,101,116,47,47]] λz=>.AE z (.rr [tt]) (.Es (.func (.func 241) [] [.Cq [g a 0,g a 1,g a 2,g a 3,g a 4,g a 5,g a 6,g a 7,g a 8,g a 9,g a 10,g a 11]]) [S [45,47,47,87,51,67,47,47,68,84,68,32,72,84,77,76,32,52,46,48,49,32,84,114,97,110,115,105,116,105,111,110,97,108,47,47]] λa0=>.AE a0 (.rr [tt]) (.op (.BI 1) [S aW0,S aWW,S aW5,S aWP,S aWQ,S aW6,S aWz,S aW3,S aWw,S aWq,S aWm,S aWn,S aW1,S aWR] λa1=>.ca 242 [a1,.func (.func 241) [] [.Cq [g a 0,g a 1,g a 2,g a 3,g a 4,g a 5,g a 6,g a 7,g a 8,g a 9,g a 10,g a 11]]] λa2=>.rr [a2]))) (.op (.BI 1) [S aW0,S aWW,S aW5,S aWP,S aWQ,S aW6,S aWz,S aW3,S aWw,S aWq,S aWm,S aWn,S aW1,S aWR] λa5=>.ca 242 [a5,.func (.func 241) [] [.Cq [g a 0,g a 1,g a 2,g a 3,g a 4,g a 5,g a 6,g a 7,g a 8,g a 9,g a 10,g a 11]]] λa7=>.rr [a7])) λu=>.rr [g u 0]))))))
def vt:Ek cx 112 aGy:=λ_=>AH
def aGz(p q:Aa):IT:=
 .cells 12 p λa=>.ie [g a 0,I 3] λb=>.AE b (.Bk 243 [g a 1,q] λc=>.nt [c] λd=>.rr [d]) (.rr [ff])
def vu:DB cx 113 aGz:=λ_ _=>AH
def aGA(p q:Aa):IT:=
 .cells 12 p λa=>.ie [g a 0,I 2] λb=>.AE b (.Bk 243 [g a 1,q] λc=>.rr [c]) (.rr [ff])
def vw:DB cx 114 aGA:=λ_ _=>AH
def aGB(p:Aa):IT:=
 .op (.BF [I 0,S [],ff,S [],ff,S [],ff,ff,.slnil,ff,S [],.int .i32 0] [(0,1),(1,1)]) [I 2,p] λa=>.cells 12 a λb=>.rr [EI b]
def vy:Ek cx 115 aGB:=λ_=>AH
def aGC(p q:Aa):IT:=
 .cells 12 q λa=>.ca 65 [p,EI a] λ_=>.fa p 2 λ_ b=>.ca 82 [b] λ_=>.rr [.tuple []]
def vz:DB cx 116 aGC:=λ_ _=>AH
def aGD(p q:Aa):IT:=
 .cells 12 p λa=>.ie [g a 0,I 3] λb=>.AE b (.Bk 243 [g a 1,q] λc=>.rr [c]) (.rr [ff])
def v_:DB cx 117 aGD:=λ_ _=>AH
def zG(p:Aa):IT:=
 .op (.GC false .sl) [p,.slnil] λa=>.AE a (.rr [.slnil]) (.op (.Gb 1) [] λb=>.op (.append 1 8) [b,p] λc=>.rr [c])
def Sl:Ek cx 118 zG:=λ_=>AH
def aGE(p q r:Aa):IT:=
 .cells 12 q λa=>.Bt p 7 λ_ _ b=>.fa p 2 λ_ c=>.op (.BF [I 0,I 0,S [],ff] [(0,1),(1,1),(2,1)]) [b,I 1,S aWL] λd=>.ca 160 [c,d] λ_=>.Es r [p,EI a] λe=>.fa p 2 λ_ f=>.ca 244 [f,b] λ_=>.rr [e]
def wc:LP cx 119 aGE:=λ_ _ _=>AH
def aGF(p:Aa):IT:=
 .fa p 1 λ_ a=>.fl a 11 λ_ b=>.ie [b,.int .i32 0] λc=>.AE c (.rr [.tuple []]) (.Bt p 0 λ_ _ d=>.ca 73 [d] λ_=>.Bt p 0 λ_ _ e=>.fa p 1 λ_ f=>.fl f 11 λ_ h=>.ca 69 [e,h] λ_=>.fa p 1 λ_ j=>.load (some 12) j λk=>.ca 107 [k] λm=>.nt [m] λn=>.AE n (.Bt p 0 λ_ _ o=>.fa o 14 λ_ s=>.store 1 s ff (.rr [.tuple []])) (.rr [.tuple []]))
def we:Ek cx 120 aGF:=λ_=>AH
def aGG:IT:=
 .Nf λa=>.ca 245 [a,S aWd,.func (.func 246) [] []] λ_=>.ca 247 [.func (.func 248) [] []] λb=>.ca 245 [a,S [97,100,100,114,101,115,115,32,97,114,116,105,99,108,101,32,97,115,105,100,101,32,98,108,111,99,107,113,117,111,116,101,32,99,101,110,116,101,114,32,100,101,116,97,105,108,115,32,100,105,97,108,111,103,32,100,105,114,32,100,105,118,32,100,108,32,102,105,101,108,100,115,101,116,32,102,105,103,99,97,112,116,105,111,110,32,102,105,103,117,114,101,32,102,111,111,116,101,114,32,104,101,97,100,101,114,32,104,103,114,111,117,112,32,109,97,105,110,32,109,101,110,117,32,110,97,118,32,111,108,32,112,32,115,101,97,114,99,104,32,115,101,99,116,105,111,110,32,115,117,109,109,97,114,121,32,117,108],b] λ_=>.ca 247 [.func (.func 249) [] []] λc=>.ca 245 [a,S aWB,c] λ_=>.ca 247 [.func (.func 250) [] []] λd=>.ca 245 [a,S [112,114,101,32,108,105,115,116,105,110,103],d] λ_=>.ca 247 [.func (.func 251) [] []] λe=>.ca 245 [a,S [98,32,98,105,103,32,99,111,100,101,32,101,109,32,102,111,110,116,32,105,32,115,32,115,109,97,108,108,32,115,116,114,105,107,101,32,115,116,114,111,110,103,32,116,116,32,117],e] λ_=>.ca 247 [.func (.func 252) [] []] λf=>.ca 245 [a,S aWN,f] λ_=>.ca 247 [.func (.func 253) [] []] λh=>.ca 245 [a,S [97,114,101,97,32,98,114,32,101,109,98,101,100,32,105,109,103,32,105,109,97,103,101,32,107,101,121,103,101,110,32,119,98,114,32,105,110,112,117,116,32,112,97,114,97,109,32,115,111,117,114,99,101,32,116,114,97,99,107,32,104,114],h] λ_=>.ca 245 [a,S [99,97,112,116,105,111,110,32,99,111,108,32,99,111,108,103,114,111,117,112,32,102,114,97,109,101,32,104,101,97,100,32,116,98,111,100,121,32,116,100,32,116,102,111,111,116,32,116,104,32,116,104,101,97,100,32,116,114],.func (.func 254) [] []] λ_=>.ca 247 [.func (.func 255) [] []] λj=>.ca 245 [a,S [116,101,120,116,97,114,101,97,32,120,109,112,32,105,102,114,97,109,101,32,110,111,101,109,98,101,100,32,112,108,97,105,110,116,101,120,116],j] λ_=>.ca 247 [.func (.func 256) [] []] λk=>.ca 245 [a,S [114,98,32,114,116,99,32,114,112,32,114,116],k] λ_=>.ca 247 [.func (.func 257) [] []] λm=>.ca 245 [a,S [109,97,116,104,32,115,118,103],m] λ_=>.ca 247 [.func (.func 258) [] []] λn=>.ca 245 [a,S [108,105,32,100,100,32,100,116],n] λ_=>.ca 247 [.func (.func 259) [] []] λo=>.ca 245 [a,S aWo,o] λ_=>.ca 247 [.func (.func 260) [] []] λs=>.ca 245 [a,S [104,116,109,108,32,98,111,100,121],s] λ_=>.ca 247 [.func (.func 261) [] []] λu=>.ca 247 [.func (.func 262) [] []] λw=>.ca 247 [.func (.func 263) [] []] λy=>.mem (.ZP .nilFunc) [a,S aWK] λz=>.op (.ext 1) [z] λa0=>.mem .Lp [a,a0,u] λ_=>.HQ a (S [102,111,114,109]) w (.HQ a (S aWk) y (.ca 247 [.func (.func 264) [] []] λa1=>.ca 247 [.func (.func 265) [] []] λa2=>.ca 247 [.func (.func 266) [] []] λa5=>.ca 247 [.func (.func 267) [] []] λa7=>.mem (.ZP .nilFunc) [a,S [97]] λa8=>.op (.ext 1) [a8] λb0=>.mem .Lp [a,b0,a1] λ_=>.HQ a (S [110,111,98,114]) a2 (.HQ a (S aWl) a5 (.HQ a (S aW4) a7 (.rr [a])))))
def wg:Cd cx 121 []=aGG:=AH
def aGH:IT:=
 .Nf λa=>.HQ a (S aWb) (.func (.func 246) [] []) (.HQ a (S aWZ) (.func (.func 268) [] []) (.HQ a (S aWh) (.func (.func 268) [] []) (.ca 247 [.func (.func 269) [] []] λb=>.ca 245 [a,S [97,100,100,114,101,115,115,32,97,114,116,105,99,108,101,32,97,115,105,100,101,32,98,108,111,99,107,113,117,111,116,101,32,98,117,116,116,111,110,32,99,101,110,116,101,114,32,100,101,116,97,105,108,115,32,100,105,97,108,111,103,32,100,105,114,32,100,105,118,32,100,108,32,102,105,101,108,100,115,101,116,32,102,105,103,99,97,112,116,105,111,110,32,102,105,103,117,114,101,32,102,111,111,116,101,114,32,104,101,97,100,101,114,32,104,103,114,111,117,112,32,108,105,115,116,105,110,103,32,109,97,105,110,32,109,101,110,117,32,110,97,118,32,111,108,32,112,114,101,32,115,101,97,114,99,104,32,115,101,99,116,105,111,110,32,115,117,109,109,97,114,121,32,117,108],b] λ_=>.ca 247 [.func (.func 270) [] []] λc=>.ca 245 [a,S [97,32,98,32,98,105,103,32,99,111,100,101,32,101,109,32,102,111,110,116,32,105,32,110,111,98,114,32,115,32,115,109,97,108,108,32,115,116,114,105,107,101,32,115,116,114,111,110,103,32,116,116,32,117],c] λ_=>.ca 247 [.func (.func 271) [] []] λd=>.ca 245 [a,S aWB,d] λ_=>.ca 247 [.func (.func 272) [] []] λe=>.ca 245 [a,S aWN,e] λ_=>.ca 247 [.func (.func 273) [] []] λf=>.ca 245 [a,S [112,32,108,105,32,100,100,32,100,116],f] λ_=>.ca 247 [.func (.func 274) [] []] λh=>.HQ a (S [102,111,114,109]) h (.ca 247 [.func (.func 275) [] []] λj=>.HQ a (S [98,114]) j (.rr [a])))))
def wh:Cd cx 122 []=aGH:=AH
def aGI(p q:Aa):IT:=
 .ca 100125 [p] λ_=>.Bt p 6 λ_ _ a=>.op (.BI 1) [q] λb=>.FN 1 8 a b λc=>.fa p 6 λ_ d=>.store 1 d c (.ca 109 [p,q] λe=>.HE 6 p (.rr [e]))
def wj:DB cx 123 aGI:=λ_ _=>AH
def aGJ(p:Aa):IT:=
 .fa p 2 λ_ a=>.ca 194 [a,S aWb] λb=>.ih [b,I 0] λc=>.rr [c]
def wk:Ek cx 124 aGJ:=λ_=>AH
def aGK(p:Aa):IT:=
 .Bt p 6 λ_ _ a=>.ln [a] λb=>.ig [b,I 0] λc=>.AE c (.Bt p 6 λ_ _ d=>.ib [b,I 1] λe=>.op (.HO 1 false false true) [d,e] λf=>.ca 118 [f] λh=>.fa p 6 λ_ j=>.store 1 j h (.rr [.tuple []])) (.rr [.tuple []])
def wm:Ek cx 125 aGK:=λ_=>AH
def aGL(p q r:Aa):IT:=
 .cells 13 r λa=>.ca 168 [p,q] λb=>.iq [b,I 0] λc=>.AE c (.rr [.tuple [I 0,b]]) (.cells 1 q λd=>.ca 164 [p,.agg [g a 0,g a 1,g a 2,g d 0,g a 4,g a 5,g a 6,g a 7,g a 8,g a 9,g a 10,g a 11,g a 12]] λe=>.rr [.tuple [e,I 0]])
def wq:LP cx 128 aGL:=λ_ _ _=>AH
def aBQ(p q r u:Aa):IT:=
 .ca 277 [p,q,r,u] λa=>.iq [a,I 0] λb=>.AE b (.rr [a]) (.ca 278 [p,r] λ_=>.loop 7 [.slnil,I 0] (λc=>.Bt p 0 λ_ _ d=>.ea 13 [d,q] λe=>.fl e 2 λ_ f=>.ln [f] λh=>.il [g c 1,h] λj=>.AE j (.Bt p 0 λ_ _ k=>.ea 13 [k,q] λm=>.fl m 2 λ_ n=>.ea 1 [n,g c 1] λo=>.ld o λs=>.ie [s,u] λw=>.Dz 100048 (.AE w (.op (.BI 1) [r] λy=>.op (.append 1 8) [g c 0,y] λz=>.rn [z]) (.rn [g c 0])) (λx a0=>match x with| .normal=>.Bt p 0 λ_ _ a1=>.ea 13 [a1,q] λa2=>.fl a2 2 λ_ a5=>.ea 1 [a5,g c 1] λa7=>.ld a7 λa8=>.op (.BI 1) [a8] λb0=>.op (.append 1 8) [g a0 0,b0] λb1=>.ia [g c 1,I 1] λb2=>.rn [b1,b2]| .exit i=>if i=1 then .ia [g c 1,I 1] λb3=>.rn [g a0 0,b3] else .ret (.exit i) [g a0 0,g c 1]| .ret=>.rr [g a0 0,g c 1])) (.rx 0 [g c 0,g c 1])) (lx 0 (λb4=>.ie [u,I 0] λb5=>.Dz 100068 (.AE b5 (.op (.BI 1) [r] λb6=>.op (.append 1 8) [g b4 0,b6] λb7=>.rn [b7]) (.rn [g b4 0])) (nx (λb8=>.Bt p 0 λ_ _ b9=>.ea 13 [b9,q] λc0=>.op (.EN 2) [c0] λc1=>.store 1 c1 (g b8 0) (.Bt p 0 λ_ _ c2=>.ea 13 [c2,r] λc4=>.op (.EN 1) [c4] λc5=>.store 1 c5 q (.rr [I 0]))) λb8=>.rr [I 0])) λb4=>.rr [I 0]))
def rA:qm cx 129 aBQ:=λ_ _ _ _=>AH
def aGM(p:Aa):IT:=
 .Bt p 2 λ_ _ a=>.ca 223 [a] λb=>.fa p 2 λ_ c=>.store 1 c b (.rr [.tuple []])
def wv:Ek cx 136 aGM:=λ_=>AH
def aGN(p q:Aa):IT:=
 .cells 3 q λa=>.ca 228 [p] λb=>.loop 3 [I (-1),I 0,b] (λc=>.ln [p] λd=>.il [g c 2,d] λe=>.AE e (.ea 3 [p,g c 2] λf=>.load (some 3) f λh=>.ca 282 [h,a3 a] λj=>.AE j (.ia [g c 1,I 1] λk=>.il [g c 0,I 0] λm=>.AE m (.ia [g c 2,I 1] λn=>.rn [g c 2,k,n]) (.ia [g c 2,I 1] λo=>.rn [g c 0,k,o])) (.ia [g c 2,I 1] λs=>.rn [g c 0,g c 1,s])) (.rx 0 [g c 0,g c 1,g c 2])) (lx 0 (λu=>.iq [g a 0,I 0] λw=>.AE w (.ih [g u 1,I 3] λy=>.AE y (.ca 283 [p,g u 0] λz=>.ln [z] λa0=>.ca 100 [z,a3 a,a0] λa1=>.rr [a1]) (.ln [p] λa2=>.ca 100 [p,a3 a,a2] λa5=>.rr [a5])) (.ln [p] λa7=>.ca 100 [p,a3 a,a7] λa8=>.rr [a8])) λu=>.rr [.slnil])
def wz:DB cx 137 aGN:=λ_ _=>AH
def w_(p q:Aa):IT:=
 .ca 284 [p,q] λa=>.il [a,I 1] λb=>.AE b (.ln [p] λc=>.ca 229 [p,c] λd=>.LK d λe=>.LK ff λf=>.rr [.tuple [e,f]]) (.ia [a,I 1] λh=>.op (.HO 4 false true false) [p,h] λj=>.ca 229 [p,a] λk=>.FN 4 40 k j λm=>.LK m λn=>.LK tt λo=>.rr [.tuple [n,o]])
def bR:DB cx 138 w_:=λ_ _=>AH
def aGO(p q:Aa):IT:=
 .se [q,S []] λa=>.AE a (.rr [ff]) (.Bk 285 [q,.int .u8 32] λb=>.AE b (.rr [ff]) (.loop 5 [ff,I 0,I 0] (λc=>.lt [p] λd=>.ik [g c 2,d] λe=>.AE e (.lt [p] λf=>.ie [g c 2,f] λh=>.AE h (.op (.HO 0 true true true) [p,g c 1,g c 2] λj=>.se [j,q] λk=>.AE k (.rr [tt,g c 1,g c 2]) (.ia [g c 2,I 1] λm=>.ia [g c 2,I 1] λn=>.rn [g c 0,m,n])) (.op .Qd [p,g c 2] λo=>.ie [o,.int .u8 32] λs=>.AE s (.op (.HO 0 true true true) [p,g c 1,g c 2] λu=>.se [u,q] λw=>.AE w (.rr [tt,g c 1,g c 2]) (.ia [g c 2,I 1] λy=>.ia [g c 2,I 1] λz=>.rn [g c 0,y,z])) (.ia [g c 2,I 1] λa0=>.rn [g c 0,g c 1,a0]))) (.rx 0 [g c 0,g c 1,g c 2])) (lx 0 (λa1=>.rr [ff]) λa1=>.rr [g a1 0])))
def xa:DB cx 139 aGO:=λ_ _=>AH
def aGP(p q:Aa):IT:=
 .loop 3 [I (-1),I 0] (λa=>.ln [p] λb=>.il [g a 1,b] λc=>.AE c (.ea 4 [p,g a 1] λd=>.load (some 4) d λe=>.op (.BI 1) [q] λf=>.ca 218 [e,f] λh=>.AE h (.ia [g a 1,I 1] λj=>.rn [g a 1,j]) (.ia [g a 1,I 1] λk=>.rn [g a 0,k])) (.rx 0 [g a 0,g a 1])) (lx 0 (λm=>.rr [g m 0]) λm=>.rr [I 0])
def xb:DB cx 142 aGP:=λ_ _=>AH
def aGQ(p q:Aa):IT:=
 .ln [p] λa=>.ln [q] λb=>.iq [a,b] λc=>.AE c (.rr [ff]) (.loop 4 [ff,I 0] (λd=>.ln [p] λe=>.il [g d 1,e] λf=>.AE f (.ea 1 [p,g d 1] λh=>.ld h λj=>.ea 1 [q,g d 1] λk=>.ld k λm=>.iq [j,m] λn=>.AE n (.rr [ff,g d 1]) (.ia [g d 1,I 1] λo=>.rn [g d 0,o])) (.rx 0 [g d 0,g d 1])) (lx 0 (λs=>.rr [tt]) λs=>.rr [g s 0]))
def xc:DB cx 144 aGQ:=λ_ _=>AH
def aGR(p q:Aa):IT:=
 .ln [p] λa=>.ln [q] λb=>.iq [a,b] λc=>.AE c (.rr [ff]) (.loop 4 [ff,I 0] (λd=>.ln [p] λe=>.il [g d 1,e] λf=>.AE f (.ea 3 [p,g d 1] λh=>.fl h 0 λ_ j=>.ea 3 [q,g d 1] λk=>.fl k 0 λ_ m=>.iq [j,m] λn=>.AE n (.rr [ff,g d 1]) (.ea 3 [p,g d 1] λo=>.fl o 1 λ_ s=>.ea 3 [q,g d 1] λu=>.fl u 1 λ_ w=>.op (.str .neq) [s,w] λy=>.AE y (.rr [ff,g d 1]) (.ea 3 [p,g d 1] λz=>.fl z 2 λ_ a0=>.ln [a0] λa1=>.ea 3 [q,g d 1] λa2=>.fl a2 2 λ_ a5=>.ln [a5] λa7=>.iq [a1,a7] λa8=>.AE a8 (.rr [ff,g d 1]) (.loop 9 [g d 0,I 0] (λb0=>.ea 3 [p,g d 1] λb1=>.fl b1 2 λ_ b2=>.ln [b2] λb3=>.il [g b0 1,b3] λb4=>.AE b4 (.ea 3 [p,g d 1] λb5=>.fl b5 2 λ_ b6=>.ea 3 [b6,g b0 1] λb7=>.load (some 3) b7 λb8=>.ea 3 [q,g d 1] λb9=>.fl b9 2 λ_ c0=>.ea 3 [c0,g b0 1] λc1=>.load (some 3) c1 λc2=>.op (.geq true [.i,.s,.s]) [b8,c2] λc4=>.AE c4 (.rr [ff,g b0 1]) (.ia [g b0 1,I 1] λc5=>.rn [g b0 0,c5])) (.rx 2 [g b0 0,g b0 1])) (λx c6=>match x with| .normal=>.fail| .exit i=>if i=2 then .ia [g d 1,I 1] λc7=>.rn [g c6 0,c7] else if i=1 then .ia [g d 1,I 1] λc8=>.rn [g c6 0,c8] else .ret (.exit i) [g c6 0,g d 1]| .ret=>.rr [g c6 0,g d 1]))))) (.rx 0 [g d 0,g d 1])) (lx 0 (λc9=>.rr [tt]) λc9=>.rr [g c9 0]))
def xd:DB cx 145 aGR:=λ_ _=>AH
def t146(p:Aa):IT:=
 .op (.Rq true) [p,.ptr none] λa=>.AE a (.Bt p 0 λ_ _ b=>.op (.Rq true) [b,.ptr none] λc=>.rr [c]) (.rr [ff])
def rB:Ek cx 146 t146:=λ_=>AH
def xe(p:Aa):IT:=
 .op (.GC false .sl) [p,.slnil] λa=>.AE a (.rr [.slnil]) (.op (.BI 3) [] λb=>.GA 3 40 b p λc=>.rr [c])
def bS:Ek cx 147 xe:=λ_=>AH
def t148(p:Aa):IT:=
 .op (.Rq false) [p,.ptr none] λa=>.AE a (.rr [I 0]) (.Bt p 0 λ_ _ b=>.ln [b] λc=>.rr [c])
def xf:Ek cx 148 t148:=λ_=>AH
def aGS(p:Aa):IT:=
 .Bt p 0 λ_ _ a=>.ln [a] λb=>.ib [b,I 1] λc=>.rr [c]
def xg:Ek cx 149 aGS:=λ_=>AH
def aGT(p q:Aa):IT:=
 .ln [p] λa=>.ln [q] λb=>.iq [a,b] λc=>.AE c (.rr [ff]) (.loop 4 [ff,I 0] (λd=>.ln [p] λe=>.il [g d 1,e] λf=>.AE f (.ea 13 [p,g d 1] λh=>.load (some 13) h λj=>.ea 13 [q,g d 1] λk=>.load (some 13) k λm=>.ca 295 [j,m] λn=>.nt [n] λo=>.AE o (.rr [ff,g d 1]) (.ia [g d 1,I 1] λs=>.rn [g d 0,s])) (.rx 0 [g d 0,g d 1])) (lx 0 (λu=>.rr [tt]) λu=>.rr [g u 0]))
def xh:DB cx 150 aGT:=λ_ _=>AH
def aGU(p:Aa):IT:=
 .op (.Rq false) [p,.ptr none] λa=>.AE a (.rr [.slnil]) (.Bt p 0 λ_ _ b=>.ln [b] λc=>.loop 5 [.slnil,I 0] (λd=>.il [g d 1,c] λe=>.AE e (.Bt p 0 λ_ _ f=>.ea 13 [f,g d 1] λh=>.ca 296 [h] λj=>.op (.BI 13) [j] λk=>.op (.append 13 168) [g d 0,k] λm=>.ia [g d 1,I 1] λn=>.rn [m,n]) (.rx 0 [g d 0,g d 1])) (lx 0 (λo=>.rr [g o 0]) λo=>.rr [.slnil]))
def xi:Ek cx 151 aGU:=λ_=>AH
def aGV(p:Aa):IT:=
 .loop 3 [.slnil,I 1] (λa=>.Bt p 0 λ_ _ b=>.ln [b] λc=>.il [g a 1,c] λd=>.AE d (.Bt p 0 λ_ _ e=>.ea 13 [e,g a 1] λf=>.load (some 13) f λh=>.ca 297 [h] λj=>.op (.BI 13) [j] λk=>.op (.append 13 168) [g a 0,k] λm=>.ia [g a 1,I 1] λn=>.rn [m,n]) (.rx 0 [g a 0,g a 1])) (lx 0 (λo=>.rr [g o 0]) λo=>.rr [.slnil])
def xj:Ek cx 152 aGV:=λ_=>AH
def xk(p q:Aa):IT:=
 .Bt p 0 λ_ _ a=>.ib [q,I 1] λb=>.ea 13 [a,b] λc=>.rr [c]
def bT:DB cx 153 xk:=λ_ _=>AH
def xl(p q:Aa):IT:=
 .cells 13 q λa=>.Bt p 0 λ_ _ b=>.op (.BF [I 0,I 0,.slnil,I 0,I 0,S [],.slnil,S [],S [],S [],ff,I 0,I 0] [(0,13)]) [WS a] λc=>.op (.BI 13) [c] λd=>.FN 13 168 b d λe=>.fa p 0 λ_ f=>.store 1 f e (.Bt p 0 λ_ _ h=>.ln [h] λj=>.rr [j])
def bU:DB cx 158 xl:=λ_ _=>AH
def zH(p q r u:Aa):IT:=
 .cells 1 p λa=>.ca 172 [g a 0,r] λb=>.op (.part 0 none) [b] λc=>.ie [c,I 1] λd=>.AE d (.ca 172 [g a 0,q] λe=>.op (.part 0 none) [e] λf=>.ie [f,I 4] λh=>.AE h (.Bt (g a 0) 0 λ_ _ j=>.ca 306 [j,r] λk=>.ca 305 [k,.func (.func 307) [] [.Cq [g a 0]]] λm=>.AE m (.rr [.tuple []]) (.ld (.Cq [g a 0]) λn=>.Bt n 0 λ_ _ o=>.ca 111 [o,r,q,u] λ_=>.rr [.tuple []])) (.Bt (g a 0) 0 λ_ _ s=>.ca 111 [s,r,q,u] λ_=>.rr [.tuple []])) (.Bt (g a 0) 0 λ_ _ w=>.ca 111 [w,r,q,u] λ_=>.rr [.tuple []])
def Sn:qm cx 159 zH:=λ_ _ _ _=>AH
def aBR(p q:Aa):IT:=
 .cells 4 q λa=>.op (.Rq true) [p,.ptr none] λb=>.AE b (.Bt p 0 λ_ _ c=>.Bt p 0 λ_ _ d=>.ln [d] λe=>.ca 308 [c,a4 a,e] λf=>.fa p 0 λ_ h=>.store 1 h f (.rr [.tuple []])) (.rr [.tuple []])
def rC:DB cx 160 aBR:=λ_ _=>AH
def aBS(p q r:Aa):IT:=
 .ie [p,I 2] λa=>.AE a (.Bk 186 [p,q] λb=>.rr [b]) (.iq [p,I 3] λc=>.AE c (.rr [ff]) (.op (.str .neq) [q,S aWg] λd=>.AE d (.rr [ff]) (.ca 309 [r,.func (.func 310) [] []] λe=>.ih [e,I 0] λf=>.AE f (.ea 3 [r,e] λh=>.fl h 2 λ_ j=>.Bk 240 [j,S aW7] λk=>.AE k (.rr [tt]) (.ea 3 [r,e] λm=>.fl m 2 λ_ n=>.Bk 240 [n,S aWp] λo=>.rr [o])) (.rr [ff]))))
def rD:LP cx 161 aBS:=λ_ _ _=>AH
def aBT(p q:Aa):IT:=
 .cells 4 p λa=>.ie [g a 1,I 1] λb=>.AE b (.ca 311 [q,g a 2] λc=>.rr [c]) (.rr [ff])
def rE:DB cx 162 aBT:=λ_ _=>AH
def xm(p q:Aa):IT:=
 .op (.BI 1) [q] λa=>.ca 236 [p,a] λb=>.iq [b,I 0] λc=>.AE c (.op (.BF [I 0,I 0,.slnil,I 0,I 0,S [],.slnil,S [],S [],S [],ff,I 0,I 0] []) [] λd=>.cells 13 d λe=>.rr [.tuple [WS e,b]]) (.ca 153 [p,q] λf=>.ca 296 [f] λh=>.cells 13 h λj=>.rr [.tuple [WS j,I 0]])
def bV:DB cx 163 xm:=λ_ _=>AH
def t164(p q:Aa):IT:=
 .cells 13 q λa=>.Bt p 0 λ_ _ b=>.op (.BI 13) [WS a] λc=>.FN 13 168 b c λd=>.fa p 0 λ_ e=>.store 1 e d (.Bt p 1 λ_ _ f=>.op (.BI 1) [I 0] λh=>.FN 1 8 f h λj=>.fa p 1 λ_ k=>.store 1 k j (.Bt p 0 λ_ _ m=>.ln [m] λn=>.ib [n,I 1] λo=>.rr [o]))
def xn:DB cx 164 t164:=λ_ _=>AH
def aBU(p q r u w:Aa):IT:=
 .ca 168 [p,q] λa=>.iq [a,I 0] λb=>.AE b (.rr [.tuple [I 0,a]]) (.Bk 207 [r] λc=>.nt [c] λd=>.AE d (.rr [.tuple [I 0,I 2]]) (.ca 312 [w] λe=>.nt [e] λf=>.AE f (.rr [.tuple [I 0,I 2]]) (.ca 313 [w] λh=>.op (.BF [I 0,I 0,.slnil,I 0,I 0,S [],.slnil,S [],S [],S [],ff,I 0,I 0] [(0,1),(3,1),(4,1),(5,1),(6,1)]) [I 4,q,r,u,h] λj=>.ca 164 [p,j] λk=>.Bt p 0 λ_ _ m=>.ea 13 [m,k] λn=>.load (some 13) n λo=>.ca 314 [o] λs=>.AE s (.ca 315 [p,q] λy=>.op (.BF [I 0,I 0,.slnil,I 0,I 0,S [],.slnil,S [],S [],S [],ff,I 0,I 0] [(0,1),(3,1),(12,1)]) [I 2,y,k] λz=>.ca 164 [p,z] λa0=>.Bt p 0 λ_ _ a1=>.ea 13 [a1,k] λa2=>.op (.EN 11) [a2] λa5=>.store 1 a5 a0 (.rr [.tuple [k,I 0]])) (.rr [.tuple [k,I 0]]))))
def rF:Tq5 cx 165 aBU:=λ_ _ _ _ _=>AH
def xo(p q r u:Aa):IT:=
 .ca 209 [p,q] λa=>.ie [a,I 1] λb=>.AE b (.ca 209 [p,r] λc=>.ie [c,I 4] λd=>.AE d (.Bt p 0 λ_ _ e=>.ca 212 [e,q] λf=>.loop 3 [I 0] (λh=>.ln [f] λj=>.il [g h 0,j] λk=>.AE k (.ea 1 [f,g h 0] λm=>.ld m λn=>.ca 209 [p,n] λo=>.ie [o,I 4] λs=>.AE s (.rr [g h 0]) (.ia [g h 0,I 1] λw=>.rn [w])) (.rx 0 [g h 0])) (lx 0 (λy=>.Bt p 0 λ_ _ z=>.ca 129 [z,q,r,u] λ_=>.rr [.tuple []]) λy=>.rr [.tuple []])) (.Bt p 0 λ_ _ a0=>.ca 129 [a0,q,r,u] λ_=>.rr [.tuple []])) (.Bt p 0 λ_ _ a1=>.ca 129 [a1,q,r,u] λ_=>.rr [.tuple []])
def bW:qm cx 166 xo:=λ_ _ _ _=>AH
def aGW(p q r:Aa):IT:=
 .ie [p,I 2] λa=>.AE a (.Bk 139 [S aWj,q] λb=>.rr [b]) (.iq [p,I 3] λc=>.AE c (.rr [ff]) (.op (.str .neq) [q,S aWg] λd=>.AE d (.rr [ff]) (.loop 6 [ff,I 0] (λe=>.ln [r] λf=>.il [g e 1,f] λh=>.AE h (.ea 3 [r,g e 1] λj=>.fl j 0 λ_ k=>.ie [k,I 0] λm=>.AE m (.ea 3 [r,g e 1] λn=>.fl n 1 λ_ o=>.se [o,S aW9] λs=>.AE s (.ea 3 [r,g e 1] λu=>.fl u 2 λ_ w=>.Bk 316 [w] λy=>.se [y,S aW7] λz=>.AE z (.rr [tt,g e 1]) (.se [y,S aWp] λa0=>.rr [a0,g e 1])) (.ia [g e 1,I 1] λa1=>.rn [g e 0,a1])) (.ia [g e 1,I 1] λa2=>.rn [g e 0,a2])) (.rx 0 [g e 0,g e 1])) (lx 0 (λa5=>.rr [ff]) λa5=>.rr [g a5 0]))))
def xq:LP cx 167 aGW:=λ_ _ _=>AH
def aGX(p q:Aa):IT:=
 .ca 281 [p,q] λa=>.nt [a] λb=>.AE b (.rr [I 3]) (.Bt p 0 λ_ _ c=>.ea 13 [c,q] λd=>.fl d 0 λ_ e=>.iq [e,I 1] λf=>.AE f (.rr [I 9]) (.rr [I 0]))
def xr:DB cx 168 aGX:=λ_ _=>AH
def xt(p q r u:Aa):IT:=
 .cells 12 r λa=>.ca 171 [p,I 0] λb=>.op (.ext 0) [b] λc=>.op (.ext 1) [b] λd=>.Es q [EI a,u,c] λe=>.cells 4 e λf=>.iq [g f 0,I 0] λh=>.AE h (.ca 159 [p,g f 0,c,d] λ_=>.fa p 2 λ_ j=>.ca 160 [j,a4 f] λ_=>.rr [g f 0]) (.rr [g f 0])
def bX:qm cx 169 xt:=λ_ _ _ _=>AH
def aBV(p q:Aa):IT:=
 .cells 3 q λa=>.op (.Rq false) [p,.ptr none] λb=>.AE b (.rr [.tuple []]) (.iq [g a 0,I 0] λc=>.Dz 100011 (.AE c (.Bt p 0 λ_ _ d=>.ln [d] λe=>.ib [e,I 1] λf=>.loop 5 [I 0,I 0,f] (λh=>.ca 198 [p] λj=>.ih [g h 2,j] λk=>.AE k (.Bt p 0 λ_ _ m=>.ea 3 [m,g h 2] λn=>.load (some 3) n λo=>.ca 317 [o,a3 a] λs=>.Dz 100032 (.AE s (.ia [g h 1,I 1] λu=>.rn [g h 2,u]) (.rn [g h 0,g h 1])) (λx w=>match x with| .normal=>.ib [g h 2,I 1] λy=>.rn [g w 0,g w 1,y]| .exit i=>if i=1 then .ib [g h 2,I 1] λz=>.rn [g w 0,g w 1,z] else .ret (.exit i) [g w 0,g w 1,g h 2]| .ret=>.rr [g w 0,g w 1,g h 2])) (.rx 0 [g h 0,g h 1,g h 2])) (λx a0=>match x with| .normal=>.fail| .exit i=>if i=0 then .ih [g a0 1,I 3] λa1=>.Dz 100037 (.AE a1 (.Bt p 0 λ_ _ a2=>.ca 318 [a2,g a0 0] λa5=>.fa p 0 λ_ a7=>.store 1 a7 a5 (.rn [])) (.rn [])) (λx _=>.ret x []) else .ret (.exit i) []| .ret=>.rr [])) (.rn [])) (nx (λa8=>.Bt p 0 λ_ b0 b1=>.Bt p 0 λ_ b2 b3=>.ln [b3] λb4=>.ca 319 [a3 a] λb5=>.ld b2 λb6=>.same b3 b6 (.ld b0 λb7=>.same b1 b7 (.ca 196 [b1,b5,b4] λb8=>.fa p 0 λ_ b9=>.store 1 b9 b8 (.rr [.tuple []])))) λa8=>.rr [.tuple []]))
def rG:DB cx 170 aBV:=λ_ _=>AH
def xu(p q:Aa):IT:=
 .ca 146 [p] λa=>.nt [a] λb=>.AE b (.rr [.tuple [I 0,I 0]]) (.ie [q,I 0] λc=>.Dz 100012 (.AE c (.fa p 2 λ_ d=>.ca 183 [d] λe=>.ie [e,I 0] λf=>.AE f (.Bt p 1 λ_ _ h=>.rr [q,h,I 0]) (.ca 187 [p] λj=>.op (.part 0 none) [j] λk=>.rn [k,I 0,I 0])) (.rn [q,I 0,I 0])) (nx (λm=>.ca 172 [p,g m 0] λn=>.cells 13 n λo=>.Dz 200009 (.Bt p 15 λ_ _ s=>.AE s (.ie [g o 0,I 4] λu=>.AE u (.op (.BF [I 0,I 0,S [],ff] [(1,1),(2,1)]) [g o 4,g o 5] λw=>.op (.BI 1) [S aWl,S aWX,S aWU,S aWY,S [116,114]] λy=>.ca 162 [w,y] λz=>.rn [z]) (.rn [ff])) (.rn [ff])) (nx (λa0=>.Dz 100046 (.AE (g a0 0) (.ca 320 [p] λa1=>.op (.ext 0) [a1] λa2=>.op (.ext 1) [a1] λa5=>.rn [a2,a5]) (.rn [g m 0,g m 2])) (nx (λa7=>.ca 172 [p,g a7 0] λa8=>.cells 13 a8 λb0=>.iq [g b0 11,I 0] λb1=>.AE b1 (.rr [.tuple [g b0 11,I 0]]) (.rr [.tuple [g a7 0,g a7 1]])) λa7=>.rr [.tuple [g a7 0,g a7 1]])) λa0=>.rr [.tuple [g m 0,g m 2]])) λm=>.rr [.tuple [g m 1,g m 2]]))
def bY:DB cx 171 xu:=λ_ _=>AH
def aBW(p q:Aa):IT:=
 .Bt p 0 λ_ _ a=>.ca 163 [a,q] λb=>.op (.ext 0) [b] λc=>.op (.ext 1) [b] λ_=>.cells 13 c λd=>.cells 13 (WS d) λe=>.rr [WS e]
def rH:DB cx 172 aBW:=λ_ _=>AH
end Go.Am
