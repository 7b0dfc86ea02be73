/- Lemmas -/
import Derived.Test.YtjjnhgoknielgaaGreatDoorW9
import Derived.Test.YtjjnhgoknielgaaGreatDoorW17
set_option linter.all false
namespace Go.Am
open Go
def t4(p:Ab):IT:=
 .ln [p] λa=>.ig [a,I 300] λb=>.A0 b (.Bz 6 [] λc=>.rr [c]) (.loop 7 [.slnil,.slnil,tt,I 0] (λd=>.ln [p] λe=>.il [g d 3,e] λf=>.A0 f (.ea 1 [p,g d 3] λh=>.ld h λj=>.ca 9 [j] λk=>.op (.Cb 12) [k] λm=>.op (.append 12 136) [g d 0,m] λn=>.A0 (g d 2) (.ih [j,.int .i32 0] λo=>.A0 o (.il [j,.int .i32 128] λs=>.A0 s (.op (.conv .u8) [j] λu=>.Bz 10 [u] λw=>.Bz 11 [j] λy=>.nt [y] λz=>.A0 z (.nt [w] λa0=>.A0 a0 (.iq [.int .i32 65533,.int .i32 0] λa1=>.A0 a1 (.op (.Cb 1) [.int .i32 65533] λa2=>.op (.append 1 4) [g d 1,a2] λa5=>.ia [g d 3,I 1] λa7=>.rn [n,a5,w,a7]) (.ia [g d 3,I 1] λa8=>.rn [n,g d 1,w,a8])) (.ia [g d 3,I 1] λb0=>.rn [n,g d 1,w,b0])) (.nt [w] λb1=>.A0 b1 (.iq [j,.int .i32 0] λb2=>.A0 b2 (.op (.Cb 1) [j] λb3=>.op (.append 1 4) [g d 1,b3] λb4=>.ia [g d 3,I 1] λb5=>.rn [n,b4,w,b5]) (.ia [g d 3,I 1] λb6=>.rn [n,g d 1,w,b6])) (.ia [g d 3,I 1] λb7=>.rn [n,g d 1,w,b7]))) (.Bz 11 [j] λb8=>.nt [b8] λb9=>.A0 b9 (.nt [ff] λc0=>.A0 c0 (.iq [.int .i32 65533,.int .i32 0] λc1=>.A0 c1 (.op (.Cb 1) [.int .i32 65533] λc2=>.op (.append 1 4) [g d 1,c2] λc4=>.ia [g d 3,I 1] λc5=>.rn [n,c4,ff,c5]) (.ia [g d 3,I 1] λc6=>.rn [n,g d 1,ff,c6])) (.ia [g d 3,I 1] λc7=>.rn [n,g d 1,ff,c7])) (.nt [ff] λc8=>.A0 c8 (.iq [j,.int .i32 0] λc9=>.A0 c9 (.op (.Cb 1) [j] λd0=>.op (.append 1 4) [g d 1,d0] λd1=>.ia [g d 3,I 1] λd2=>.rn [n,d1,ff,d2]) (.ia [g d 3,I 1] λd3=>.rn [n,g d 1,ff,d3])) (.ia [g d 3,I 1] λd4=>.rn [n,g d 1,ff,d4])))) (.Bz 11 [j] λd5=>.nt [d5] λd6=>.A0 d6 (.nt [ff] λd7=>.A0 d7 (.iq [.int .i32 65533,.int .i32 0] λd8=>.A0 d8 (.op (.Cb 1) [.int .i32 65533] λd9=>.op (.append 1 4) [g d 1,d9] λe0=>.ia [g d 3,I 1] λe1=>.rn [n,e0,ff,e1]) (.ia [g d 3,I 1] λe2=>.rn [n,g d 1,ff,e2])) (.ia [g d 3,I 1] λe3=>.rn [n,g d 1,ff,e3])) (.nt [ff] λe4=>.A0 e4 (.iq [j,.int .i32 0] λe5=>.A0 e5 (.op (.Cb 1) [j] λe6=>.op (.append 1 4) [g d 1,e6] λe7=>.ia [g d 3,I 1] λe8=>.rn [n,e7,ff,e8]) (.ia [g d 3,I 1] λe9=>.rn [n,g d 1,ff,e9])) (.ia [g d 3,I 1] λf0=>.rn [n,g d 1,ff,f0])))) (.Bz 11 [j] λf1=>.nt [f1] λf2=>.A0 f2 (.nt [ff] λf3=>.A0 f3 (.iq [.int .i32 65533,.int .i32 0] λf4=>.A0 f4 (.op (.Cb 1) [.int .i32 65533] λf5=>.op (.append 1 4) [g d 1,f5] λf6=>.ia [g d 3,I 1] λf7=>.rn [n,f6,ff,f7]) (.ia [g d 3,I 1] λf8=>.rn [n,g d 1,ff,f8])) (.ia [g d 3,I 1] λf9=>.rn [n,g d 1,ff,f9])) (.nt [ff] λh0=>.A0 h0 (.iq [j,.int .i32 0] λh1=>.A0 h1 (.op (.Cb 1) [j] λh2=>.op (.append 1 4) [g d 1,h2] λh3=>.ia [g d 3,I 1] λh4=>.rn [n,h3,ff,h4]) (.ia [g d 3,I 1] λh5=>.rn [n,g d 1,ff,h5])) (.ia [g d 3,I 1] λh6=>.rn [n,g d 1,ff,h6])))) (.rx 0 [g d 0,g d 1,g d 2,g d 3])) (lx 0 (λh7=>.op (.Dc [I 0,S [],ff,S [],ff,S [],ff,ff,.slnil,ff,S [],.int .i32 0] [(0,1)]) [I 6] λh8=>.op (.Cb 12) [h8] λh9=>.op (.append 12 136) [g h7 0,h9] λj0=>.ca 7 [j0] λj1=>.op (.ext 0) [j1] λj2=>.op (.ext 1) [j1] λj3=>.op (.WN false) [j2,.ptr none] λj4=>.A0 j4 (.rr [ff]) (.nt [j3] λj5=>.A0 j5 (.rr [ff]) (.Ck j2 0 λ_ _ j6=>.Ck j2 1 λ_ _ j7=>.ca 8 [j6,j7] λj8=>.op (.ext 0) [j8] λ_=>.op (.ext 1) [j8] λj9=>.ln [j9] λk0=>.iq [k0,I 1] λk1=>.A0 k1 (.rr [ff]) (.Ck j2 0 λ_ _ k2=>.ea 1 [j9,I 0] λk3=>.ld k3 λk4=>.ca 8 [k2,k4] λk5=>.op (.ext 0) [k5] λk6=>.op (.ext 1) [k5] λk7=>.ln [k6] λk8=>.iq [k8,I 2] λk9=>.A0 k9 (.rr [ff]) (.ea 1 [k6,I 1] λm0=>.ld m0 λm1=>.op (.str .neq) [m1,S aXS] λm2=>.A0 m2 (.rr [ff]) (.Ck j2 0 λ_ _ m3=>.ea 1 [k7,I 1] λm4=>.ld m4 λm5=>.ca 12 [m3,m5] λm6=>.ln [g h7 1] λm7=>.ie [m7,I 0] λm8=>.A0 m8 (.ln [m6] λm9=>.ie [m9,I 0] λn0=>.A0 n0 (.Bz 6 [] λn1=>.rr [n1]) (.rr [ff])) (.ln [m6] λn2=>.iq [n2,I 1] λn3=>.A0 n3 (.rr [ff]) (.Ck j2 0 λ_ _ n4=>.ea 1 [m6,I 0] λn5=>.ld n5 λn6=>.ca 13 [n4,n6] λn7=>.op (.ext 0) [n7] λn8=>.op (.ext 1) [n7] λ_=>.cells 13 n8 λn9=>.ie [g n9 0,I 5] λo0=>.A0 o0 (.ca 14 [g h7 1] λo1=>.se [g n9 7,o1] λo2=>.A0 o2 (.Bz 6 [] λo3=>.rr [o3]) (.rr [ff])) (.rr [ff]))))))))) λh7=>.rr [ff]))
def aJ1:GL cx 4 t4:=λ_=>AT
def t7(p:Ab):IT:=
 .ca 19 [] λa=>.op (.WN false) [a,.ptr none] λb=>.A0 b (.rr [.tuple [.ptr none,ff]]) (.loop 5 [.ptr none,ff,I 0] (λc=>.ln [p] λd=>.il [g c 2,d] λe=>.A0 e (.ea 12 [p,g c 2] λf=>.load (some 12) f λh=>.ca 20 [a,h] λj=>.nt [j] λk=>.A0 k (.rr [.ptr none,ff,g c 2]) (.Ck a 4 λ_ _ m=>.Bz 21 [m] λn=>.nt [n] λo=>.A0 o (.rr [a,ff,g c 2]) (.ia [g c 2,I 1] λs=>.rn [g c 0,g c 1,s]))) (.rx 0 [g c 0,g c 1,g c 2])) (lx 0 (λu=>.rr [.tuple [a,tt]]) λu=>.rr [.tuple [g u 0,g u 1]]))
def aDa:GL cx 7 t7:=λ_=>AT
def t8(p q:Ab):IT:=
 .ca 12 [p,q] λa=>.loop 5 [.slnil,.slnil,I 0] (λb=>.ln [a] λc=>.il [g b 2,c] λd=>.A0 d (.ea 1 [a,g b 2] λe=>.ld e λf=>.ca 13 [p,f] λh=>.op (.ext 0) [h] λj=>.op (.ext 1) [h] λk=>.cells 13 j λm=>.ie [k,I 0] λn=>.A0 n (.ie [g m 0,I 4] λo=>.A0 o (.op (.Cb 1) [g m 5] λs=>.op (.append 1 16) [g b 0,s] λu=>.ea 1 [a,g b 2] λw=>.ld w λy=>.op (.Cb 1) [y] λz=>.op (.append 1 8) [g b 1,z] λa0=>.ia [g b 2,I 1] λa1=>.rn [u,a0,a1]) (.ia [g b 2,I 1] λa2=>.rn [g b 0,g b 1,a2])) (.ia [g b 2,I 1] λa5=>.rn [g b 0,g b 1,a5])) (.rx 0 [g b 0,g b 1,g b 2])) (lx 0 (λa7=>.rr [.tuple [g a7 0,g a7 1]]) λa7=>.rr [.tuple [.slnil,.slnil]])
def aJ2:Gi cx 8 t8:=λ_ _=>AT
def t9(p:Ab):IT:=
 .op (.Dc [I 0,S [],ff,S [],ff,S [],ff,ff,.slnil,ff,S [],.int .i32 0] [(0,1),(11,1)]) [I 5,p] λa=>.cells 12 a λb=>.rr [GM b]
def aDb:GL cx 9 t9:=λ_=>AT
def t10(p:Ab):IT:=
 .ie [p,.int .u8 9] λa=>.A0 a (.rr [tt]) (.ie [p,.int .u8 10] λb=>.A0 b (.rr [tt]) (.ie [p,.int .u8 12] λc=>.A0 c (.rr [tt]) (.ie [p,.int .u8 13] λd=>.A0 d (.rr [tt]) (.ie [p,.int .u8 32] λe=>.rr [e]))))
def aE0:GL cx 10 t10:=λ_=>AT
def t11(p:Ab):IT:=
 .ih [p,.int .i32 0] λa=>.A0 a (.ik [p,.int .i32 55295] λb=>.A0 b (.rr [tt]) (.ih [p,.int .i32 57344] λc=>.A0 c (.ik [p,.int .i32 1114111] λd=>.rr [d]) (.rr [ff]))) (.ih [p,.int .i32 57344] λe=>.A0 e (.ik [p,.int .i32 1114111] λf=>.rr [f]) (.rr [ff]))
def aE1:GL cx 11 t11:=λ_=>AT
def t12(p q:Ab):IT:=
 .ca 22 [p,q] λa=>.nt [a] λb=>.A0 b (.rr [.slnil]) (.ca 24 [p,q] λc=>.fa c 0 λ_ d=>.fl d 2 λ_ e=>.ca 23 [e] λf=>.rr [f])
def vQ:Gi cx 12 t12:=λ_ _=>AT
def t13(p q:Ab):IT:=
 .op (.Cb 1) [q] λa=>.ca 25 [p,a] λb=>.iq [b,I 0] λc=>.A0 c (.op (.Dc [I 0,I 0,.slnil,I 0,I 0,S [],.slnil,S [],S [],S [],ff,I 0,I 0] []) [] λd=>.cells 13 d λe=>.rr [.tuple [a13 e,b]]) (.ca 24 [p,q] λf=>.ca 26 [f] λh=>.cells 13 h λj=>.rr [.tuple [a13 j,I 0]])
def vR:Gi cx 13 t13:=λ_ _=>AT
def t14(p:Ab):IT:=
 .loop 3 [.slnil,I 0] (λa=>.ln [p] λb=>.il [g a 1,b] λc=>.A0 c (.ea 1 [p,g a 1] λd=>.ld d λe=>.ca 27 [e] λf=>.op (.append 1 1) [g a 0,f] λh=>.ia [g a 1,I 1] λj=>.rn [h,j]) (.rx 0 [g a 0,g a 1])) (lx 0 (λk=>.UF (g k 0) λm=>.op .XD [m] λn=>.rr [n]) λk=>.rr [S []])
def aE2:GL cx 14 t14:=λ_=>AT
def t16(p q:Ab):IT:=
 .ca 7 [p] λa=>.op (.ext 0) [a] λb=>.op (.ext 1) [a] λ_=>.op (.WN false) [b,.ptr none] λc=>.A0 c (.rr [S []]) (.Ck b 0 λ_ _ d=>.ca 29 [d,q] λe=>.rr [e])
def aE3:Gi cx 16 t16:=λ_ _=>AT
def t17(p:Ab):IT:=
 .op (.Dc [I 0,S [],ff,S [],ff,S [],ff,ff,.slnil,ff,S [],.int .i32 0] [(0,1),(1,1)]) [I 2,p] λa=>.cells 12 a λb=>.rr [GM b]
def aE4:GL cx 17 t17:=λ_=>AT
def t18(p:Ab):IT:=
 .op (.Dc [I 0,S [],ff,S [],ff,S [],ff,ff,.slnil,ff,S [],.int .i32 0] [(0,1),(1,1)]) [I 3,p] λa=>.cells 12 a λb=>.rr [GM b]
def aE5:GL cx 18 t18:=λ_=>AT
def t19:IT:=
 .ca 30 [] λa=>.ca 32 [a,ff] λb=>.ca 31 [a,b] λc=>.rr [c]
def ä:Cf cx 19 []=t19:=AT
def t20(p q:Ab):IT:=
 .cells 12 q λa=>.Ck p 6 λ_ _ b=>.ln [b] λc=>.ia [I 9,c] λd=>.loop 3 [ff,I 0] (λe=>.il [g e 1,d] λf=>.A0 f (.Ck p 4 λ_ _ h=>.Bz 21 [h] λj=>.nt [j] λk=>.A0 k (.rr [tt,g e 1]) (.ca 34 [GM a] λm=>.ca 33 [p,m] λn=>.nt [n] λo=>.A0 o (.rr [tt,g e 1]) (.ia [g e 1,I 1] λs=>.rn [g e 0,s]))) (.rx 0 [g e 0,g e 1])) (lx 0 (λu=>.Ck p 4 λ_ _ w=>.Bz 21 [w] λy=>.nt [y] λz=>.rr [z]) λu=>.rr [g u 0])
def å:Gi cx 20 t20:=λ_ _=>AT
def t21(p:Ab):IT:=
 .ih [p,I 1] λa=>.A0 a (.ik [p,I 8] λb=>.A0 b (.rr [tt]) (.ie [p,I 18] λc=>.rr [c])) (.ie [p,I 18] λd=>.rr [d])
def æ:GL cx 21 t21:=λ_=>AT
def t22(p q:Ab):IT:=
 .op (.WN true) [p,.ptr none] λa=>.A0 a (.ih [q,I 1] λb=>.A0 b (.Ck p 0 λ_ _ c=>.ln [c] λd=>.ik [q,d] λe=>.rr [e]) (.rr [ff])) (.rr [ff])
def ç:Gi cx 22 t22:=λ_ _=>AT
def t23(p:Ab):IT:=
 .op (.Gs false .sl) [p,.slnil] λa=>.A0 a (.rr [.slnil]) (.op (.Cb 1) [] λb=>.GW 1 8 b p λc=>.rr [c])
def vS:GL cx 23 t23:=λ_=>AT
def t24(p q:Ab):IT:=
 .Ck p 0 λ_ _ a=>.ib [q,I 1] λb=>.ea 13 [a,b] λc=>.rr [c]
def vT:Gi cx 24 t24:=λ_ _=>AT
def t25(p q:Ab):IT:=
 .op (.WN false) [p,.ptr none] λa=>.A0 a (.rr [I 1]) (.ln [q] λb=>.loop 4 [I 0,I 0] (λc=>.il [g c 1,b] λd=>.A0 d (.ea 1 [q,g c 1] λe=>.ld e λf=>.ca 22 [p,f] λh=>.nt [h] λj=>.A0 j (.rr [I 3,g c 1]) (.ia [g c 1,I 1] λk=>.rn [g c 0,k])) (.rx 0 [g c 0,g c 1])) (lx 0 (λm=>.rr [I 0]) λm=>.rr [g m 0]))
def è:Gi cx 25 t25:=λ_ _=>AT
def t26(p:Ab):IT:=
 .fa p 0 λ_ a=>.load (some 13) a λb=>.cells 13 b λc=>.fa p 0 λ_ d=>.fl d 2 λ_ e=>.fa p 0 λ_ f=>.fl f 6 λh j=>.ca 23 [e] λk=>.ld h λm=>.same j m (.ca 100035 [j] λn=>.cells 1 k λo=>.cells 1 n λs=>.cells 13 (.agg [g c 0,g c 1,g o 0,g c 3,g c 4,g c 5,g s 0,g c 7,g c 8,g c 9,g c 10,g c 11,g c 12]) λu=>.rr [a13 u])
def é:GL cx 26 t26:=λ_=>AT
def t27(p:Ab):IT:=
 .op (.conv .i64) [p] λa=>.il [a,I 128] λb=>.A0 b (.op (.conv .u8) [a] λc=>.op (.Cb 1) [c] λd=>.rr [d]) (.il [a,I 2048] λe=>.A0 e (.op (.int .quo) [a,I 64] λf=>.ia [I 192,f] λh=>.op (.conv .u8) [h] λj=>.op (.int .rem) [a,I 64] λk=>.ia [I 128,k] λm=>.op (.conv .u8) [m] λn=>.op (.Cb 1) [j,n] λo=>.rr [o]) (.il [a,I 65536] λs=>.A0 s (.op (.int .quo) [a,I 4096] λu=>.ia [I 224,u] λw=>.op (.conv .u8) [w] λy=>.op (.int .quo) [a,I 64] λz=>.op (.int .rem) [z,I 64] λa0=>.ia [I 128,a0] λa1=>.op (.conv .u8) [a1] λa2=>.op (.int .rem) [a,I 64] λa5=>.ia [I 128,a5] λa7=>.op (.conv .u8) [a7] λa8=>.op (.Cb 1) [y,a2,a8] λb0=>.rr [b0]) (.op (.int .quo) [a,I 262144] λb1=>.ia [I 240,b1] λb2=>.op (.conv .u8) [b2] λb3=>.op (.int .quo) [a,I 4096] λb4=>.op (.int .rem) [b4,I 64] λb5=>.ia [I 128,b5] λb6=>.op (.conv .u8) [b6] λb7=>.op (.int .quo) [a,I 64] λb8=>.op (.int .rem) [b8,I 64] λb9=>.ia [I 128,b9] λc0=>.op (.conv .u8) [c0] λc1=>.op (.int .rem) [a,I 64] λc2=>.ia [I 128,c2] λc3=>.op (.conv .u8) [c3] λc4=>.op (.Cb 1) [b3,b7,c1,c4] λc5=>.rr [c5])))
def aE6:GL cx 27 t27:=λ_=>AT
def t30:IT:=
 .op (.Dc [.slnil,.map none] []) [] λa=>.alloc 2 a λb=>.rr [b]
def ê:Cf cx 30 []=t30:=AT
def t31(p q:Ab):IT:=
 .ca 13 [p,q] λa=>.op (.ext 0) [a] λb=>.op (.ext 1) [a] λc=>.cells 13 b λd=>.iq [c,I 0] λe=>.A0 e (.rr [.ptr none]) (.iq [g d 0,I 1] λf=>.A0 f (.rr [.ptr none]) (.op (.Dc [.ptr none,I 0,.slnil,.slnil,I 0,I 0,.slnil,I 0,I 0,ff,I 0,I 0,S [],ff,ff,ff,S [],ff,I 0,ff] [(0,1),(1,1),(4,1),(14,1)]) [p,q,I 1,tt] λh=>.alloc 20 h λj=>.rr [j]))
def ë:Gi cx 31 t31:=λ_ _=>AT
def t32(p q:Ab):IT:=
 .op (.WN false) [p,.ptr none] λa=>.A0 a (.rr [I 0]) (.op (.Dc [I 0,I 0,.slnil,I 0,I 0,S [],.slnil,S [],S [],S [],ff,I 0,I 0] [(0,1),(10,1)]) [I 1,q] λb=>.ca 38 [p,b] λc=>.ca 24 [p,c] λd=>.fa d 0 λ_ e=>.op (.GC 3) [e] λf=>.store 1 f c (.rr [c]))
def vU:Gi cx 32 t32:=λ_ _=>AT
def t33(p q:Ab):IT:=
 .cells 12 q λa=>.ca 39 [p,GM a] λb=>.nt [b] λc=>.A0 c (.rr [ff]) (.Ck p 4 λ_ d e=>.ca 40 [] λf=>.ld d λh=>.same e h (.mem (.ov .nilFunc true) [f,e] λj=>.op (.ext 0) [j] λk=>.op (.ext 1) [j] λm=>.A0 m (.EJ k [p,GM a] λn=>.rr [n]) (.rr [ff])))
def iQ:Gi cx 33 t33:=λ_ _=>AT
def t34(p:Ab):IT:=
 .cells 12 p λa=>.op (.append 3 40) [.slnil,g a 8] λb=>.cells 1 b λc=>.cells 12 (.agg [g a 0,g a 1,g a 2,g a 3,g a 4,g a 5,g a 6,g a 7,g c 0,g a 9,g a 10,g a 11]) λd=>.rr [GM d]
def ì:GL cx 34 t34:=λ_=>AT
def t35(p:Ab):IT:=
 .op (.Gs false .sl) [p,.slnil] λa=>.A0 a (.rr [.slnil]) (.op (.Cb 3) [] λb=>.GW 3 40 b p λc=>.rr [c])
def vV:GL cx 35 t35:=λ_=>AT
def t38(p q:Ab):IT:=
 .cells 13 q λa=>.Ck p 0 λ_ _ b=>.op (.Dc [I 0,I 0,.slnil,I 0,I 0,S [],.slnil,S [],S [],S [],ff,I 0,I 0] [(0,13)]) [a13 a] λc=>.op (.Cb 13) [c] λd=>.GZ 13 168 b d λe=>.fa p 0 λ_ f=>.store 1 f e (.Ck p 0 λ_ _ h=>.ln [h] λj=>.rr [j])
def vW:Gi cx 38 t38:=λ_ _=>AT
def t39(p q:Ab):IT:=
 .cells 12 q λa=>.op (.WN true) [p,.ptr none] λb=>.A0 b (.Ck p 0 λ_ _ c=>.op (.WN true) [c,.ptr none] λd=>.A0 d (.ih [g a 0,I 1] λe=>.A0 e (.ik [g a 0,I 6] λf=>.rr [f]) (.rr [ff])) (.rr [ff])) (.rr [ff])
def í:Gi cx 39 t39:=λ_ _=>AT
def t40:IT:=
 .Oy λa=>.mem .UE [a,I 1,.func (.func 45) [] []] λ_=>.mem .UE [a,I 2,.func (.func 46) [] []] λ_=>.mem .UE [a,I 3,.func (.func 47) [] []] λ_=>.mem .UE [a,I 4,.func (.func 48) [] []] λ_=>.mem .UE [a,I 5,.func (.func 49) [] []] λ_=>.mem .UE [a,I 6,.func (.func 50) [] []] λ_=>.mem .UE [a,I 7,.func (.func 51) [] []] λ_=>.mem .UE [a,I 8,.func (.func 52) [] []] λ_=>.mem .UE [a,I 18,.func (.func 53) [] []] λ_=>.rr [a]
def î:Cf cx 40 []=t40:=AT
def t45(p q:Ab):IT:=
 .cells 12 q λa=>.ca 39 [p,GM a] λb=>.nt [b] λc=>.A0 c (.rr [ff]) (.ca 61 [GM a] λd=>.A0 d (.rr [ff]) (.ie [g a 0,I 4] λe=>.A0 e (.Ck p 1 λ_ _ f=>.ca 62 [p,g a 10,f] λ_=>.rr [ff]) (.iq [g a 0,I 1] λh=>.A0 h (.Ck p 0 λ_ _ j=>.Ck p 1 λ_ _ k=>.ca 63 [j,k,tt] λ_=>.ca 64 [p,I 2] λm=>.rr [m]) (.Ck p 0 λ_ _ n=>.Ck p 1 λ_ _ o=>.ca 65 [n,o,g a 1,g a 3,g a 5] λs=>.op (.ext 0) [s] λu=>.op (.ext 1) [s] λw=>.ie [w,I 0] λy=>.A0 y (.Ck p 0 λ_ _ z=>.Ck p 1 λ_ _ a0=>.ca 66 [z,a0,u,I 0] λ_=>.ca 67 [GM a] λa1=>.A0 a1 (.Ck p 0 λ_ _ a2=>.Ck p 1 λ_ _ a5=>.ca 63 [a2,a5,tt] λ_=>.fa p 4 λ_ a7=>.store 1 a7 (I 2) (.rr [ff])) (.fa p 4 λ_ a8=>.store 1 a8 (I 2) (.rr [ff]))) (.ca 67 [GM a] λb0=>.A0 b0 (.Ck p 0 λ_ _ b1=>.Ck p 1 λ_ _ b2=>.ca 63 [b1,b2,tt] λ_=>.fa p 4 λ_ b3=>.store 1 b3 (I 2) (.rr [ff])) (.fa p 4 λ_ b4=>.store 1 b4 (I 2) (.rr [ff])))))))
def SO:Gi cx 45 t45:=λ_ _=>AT
def t46(p q:Ab):IT:=
 .cells 12 q λa=>.ca 39 [p,GM a] λb=>.nt [b] λc=>.A0 c (.rr [ff]) (.ie [g a 0,I 1] λd=>.A0 d (.rr [ff]) (.ca 61 [GM a] λe=>.A0 e (.rr [ff]) (.ca 68 [GM a,S aYz] λf=>.A0 f (.rr [ff]) (.ie [g a 0,I 4] λh=>.A0 h (.Ck p 1 λ_ _ j=>.ca 62 [p,g a 10,j] λ_=>.rr [ff]) (.ca 69 [GM a,S aXM] λk=>.A0 k (.ca 70 [p,GM a] λ_=>.fa p 4 λ_ m=>.store 1 m (I 3) (.rr [ff])) (.ca 71 [S aXM] λn=>.ca 70 [p,n] λ_=>.ca 64 [p,I 3] λo=>.rr [o]))))))
def Q1:Gi cx 46 t46:=λ_ _=>AT
def Ŷ(p q:Ab):IT:=
 .cells 12 q λa=>.ca 39 [p,GM a] λb=>.nt [b] λc=>.A0 c (.rr [ff]) (.ie [g a 0,I 1] λd=>.A0 d (.rr [ff]) (.ca 61 [GM a] λe=>.A0 e (.rr [ff]) (.ca 68 [GM a,S aYz] λf=>.A0 f (.rr [ff]) (.ie [g a 0,I 4] λh=>.A0 h (.ca 62 [p,g a 10,I 0] λ_=>.rr [ff]) (.ca 69 [GM a,S aXM] λj=>.A0 j (.ca 51 [p,GM a] λk=>.rr [k]) (.ca 69 [GM a,S aXR] λm=>.A0 m (.ca 70 [p,GM a] λn=>.fa p 7 λ_ o=>.store 1 o n (.fa p 4 λ_ s=>.store 1 s (I 4) (.rr [ff]))) (.ca 71 [S aXR] λu=>.ca 70 [p,u] λw=>.fa p 7 λ_ y=>.store 1 y w (.ca 64 [p,I 4] λz=>.rr [z]))))))))
def PQ:Gi cx 47 Ŷ:=λ_ _=>AT
def mV(p q:Ab):IT:=
 .cells 12 q λa=>.ca 39 [p,GM a] λb=>.nt [b] λc=>.A0 c (.rr [ff]) (.ie [g a 0,I 1] λd=>.A0 d (.rr [ff]) (.ca 69 [GM a,S aXR] λe=>.A0 e (.rr [ff]) (.ca 68 [GM a,S aYv] λf=>.A0 f (.rr [ff]) (.ca 61 [GM a] λh=>.A0 h (.ca 72 [p,g a 11] λ_=>.rr [ff]) (.ie [g a 0,I 4] λj=>.A0 j (.ca 62 [p,g a 10,I 0] λ_=>.rr [ff]) (.ca 69 [GM a,S aXM] λk=>.A0 k (.ca 51 [p,GM a] λm=>.rr [m]) (.ca 69 [GM a,S aYj] λn=>.A0 n (.ca 73 [p,GM a] λ_=>.rr [ff]) (.ca 69 [GM a,S aX7] λo=>.A0 o (.ca 74 [p,GM a,I 2] λ_=>.rr [ff]) (.ca 69 [GM a,S aYZ] λs=>.A0 s (.ca 74 [p,GM a,I 3] λ_=>.rr [ff]) (.ca 69 [GM a,S aYq] λu=>.A0 u (.ca 74 [p,GM a,I 4] λ_=>.rr [ff]) (.ca 69 [GM a,S aXY] λw=>.A0 w (.ca 70 [p,GM a] λ_=>.fa p 4 λ_ y=>.store 1 y (I 5) (.rr [ff])) (.ca 75 [GM a,S aXR] λz=>.A0 z (.fa p 2 λ_ a0=>.ca 76 [a0] λ_=>.fa p 4 λ_ a1=>.store 1 a1 (I 6) (.rr [ff])) (.ca 69 [GM a,S aXP] λa2=>.A0 a2 (.ca 70 [p,GM a] λ_=>.fa p 3 λ_ a5=>.ca 77 [a5] λ_=>.fa p 14 λ_ a7=>.store 1 a7 ff (.fa p 4 λ_ a8=>.store 1 a8 (I 18) (.Ck p 6 λ_ _ b0=>.ca 78 [b0] λb1=>.op (.Cb 1) [I 18] λb2=>.op (.append 1 8) [b1,b2] λb3=>.fa p 6 λ_ b4=>.store 1 b4 b3 (.rr [ff])))) (.ca 75 [GM a,S aXP] λb5=>.A0 b5 (.ca 79 [p] λ_=>.rr [ff]) (.fa p 2 λ_ b6=>.ca 76 [b6] λ_=>.ca 64 [p,I 6] λb7=>.rr [b7])))))))))))))))
def Jn:Gi cx 48 mV:=λ_ _=>AT
def xy(p q:Ab):IT:=
 .cells 12 q λa=>.ca 39 [p,GM a] λb=>.nt [b] λc=>.A0 c (.rr [ff]) (.ie [g a 0,I 1] λd=>.A0 d (.rr [ff]) (.ca 69 [GM a,S aY3] λe=>.A0 e (.rr [ff]) (.ca 68 [GM a,S aZd] λf=>.A0 f (.rr [ff]) (.ca 69 [GM a,S aXM] λh=>.A0 h (.ca 51 [p,GM a] λj=>.rr [j]) (.ca 75 [GM a,S aXY] λk=>.A0 k (.fa p 2 λ_ m=>.ca 76 [m] λ_=>.fa p 4 λ_ n=>.store 1 n (I 4) (.rr [ff])) (.ca 61 [GM a] λo=>.A0 o (.ca 48 [p,GM a] λs=>.rr [s]) (.ie [g a 0,I 4] λu=>.A0 u (.ca 48 [p,GM a] λw=>.rr [w]) (.ca 69 [GM a,S aX8] λy=>.A0 y (.ca 48 [p,GM a] λz=>.rr [z]) (.fa p 2 λ_ a0=>.ca 76 [a0] λ_=>.ca 64 [p,I 4] λa1=>.rr [a1])))))))))
def Nr:Gi cx 49 xy:=λ_ _=>AT
def aw(p q:Ab):IT:=
 .cells 12 q λa=>.ca 39 [p,GM a] λb=>.nt [b] λc=>.A0 c (.rr [ff]) (.ie [g a 0,I 1] λd=>.A0 d (.rr [ff]) (.ca 69 [GM a,S aXR] λe=>.A0 e (.rr [ff]) (.ca 68 [GM a,S aYH] λf=>.A0 f (.rr [ff]) (.ca 61 [GM a] λh=>.A0 h (.ca 72 [p,g a 11] λ_=>.rr [ff]) (.ie [g a 0,I 4] λj=>.A0 j (.ca 62 [p,g a 10,I 0] λ_=>.rr [ff]) (.ca 69 [GM a,S aXM] λk=>.A0 k (.ca 51 [p,GM a] λm=>.rr [m]) (.ca 69 [GM a,S aXS] λn=>.A0 n (.ca 70 [p,GM a] λ_=>.fa p 14 λ_ o=>.store 1 o ff (.fa p 4 λ_ s=>.store 1 s (I 7) (.rr [ff]))) (.ca 69 [GM a,S aXV] λu=>.A0 u (.ca 70 [p,GM a] λ_=>.fa p 4 λ_ w=>.store 1 w (I 20) (.rr [ff])) (.ca 69 [GM a,S aXN] λy=>.A0 y (.ca 80 [p,GM a,.func (.func 48) [] []] λz=>.rr [z]) (.ca 75 [GM a,S aXP] λa0=>.A0 a0 (.ca 48 [p,GM a] λa1=>.rr [a1]) (.ca 71 [S aXS] λa2=>.ca 70 [p,a2] λ_=>.ca 64 [p,I 7] λa5=>.rr [a5])))))))))))
def LI:Gi cx 50 aw:=λ_ _=>AT
def t51(p q:Ab):IT:=
 .cells 12 q λa=>.ca 39 [p,GM a] λb=>.nt [b] λc=>.A0 c (.rr [ff]) (.op (.Dc [.ptr none,I 0,S [],ff,S [],ff,S [],ff,ff,.slnil,ff,S [],.int .i32 0] [(0,1),(1,12)]) [p,GM a] λd=>.alloc 13 d λe=>.ie [g a 0,I 5] λf=>.A0 f (.ca 81 [e] λ_=>.rr [ff]) (.ie [g a 0,I 4] λh=>.A0 h (.ca 62 [p,g a 10,I 0] λ_=>.rr [ff]) (.ie [g a 0,I 6] λj=>.A0 j (.Ck p 6 λ_ _ k=>.ln [k] λm=>.ig [m,I 0] λn=>.A0 n (.ca 53 [p,GM a] λo=>.rr [o]) (.ca 82 [p] λ_=>.rr [ff])) (.ie [g a 0,I 2] λs=>.A0 s (.ca 83 [] λu=>.M8 .nilFunc false u (g a 1) λw=>.op (.Gs true .fn) [w,.nilFunc] λy=>.A0 y (.EJ w [e] λz=>.rr [z]) (.ca 84 [p] λ_=>.ca 70 [p,GM a] λ_=>.rr [ff])) (.ie [g a 0,I 3] λa0=>.A0 a0 (.ca 85 [] λa1=>.M8 .nilFunc false a1 (g a 1) λa2=>.op (.Gs true .fn) [a2,.nilFunc] λa5=>.A0 a5 (.EJ a2 [e] λa7=>.rr [a7]) (.ca 86 [p,g a 1] λ_=>.rr [ff])) (.rr [ff]))))))
def LJ:Gi cx 51 t51:=λ_ _=>AT
def t52(p q:Ab):IT:=
 .cells 12 q λa=>.ca 39 [p,GM a] λb=>.nt [b] λc=>.A0 c (.rr [ff]) (.ie [g a 0,I 5] λd=>.A0 d (.ca 72 [p,g a 11] λ_=>.rr [ff]) (.ie [g a 0,I 6] λe=>.A0 e (.fa p 2 λ_ f=>.ca 76 [f] λ_=>.Ck p 5 λ_ _ h=>.ca 64 [p,h] λj=>.rr [j]) (.ie [g a 0,I 3] λk=>.A0 k (.fa p 2 λ_ m=>.ca 76 [m] λ_=>.Ck p 5 λ_ _ n=>.fa p 4 λ_ o=>.store 1 o n (.rr [ff])) (.rr [ff]))))
def Ve:Gi cx 52 t52:=λ_ _=>AT
def t53(p q:Ab):IT:=
 .cells 12 q λa=>.ca 39 [p,GM a] λb=>.nt [b] λc=>.A0 c (.rr [ff]) (.ie [g a 0,I 5] λd=>.A0 d (.ca 51 [p,GM a] λe=>.rr [e]) (.ie [g a 0,I 4] λf=>.A0 f (.ca 51 [p,GM a] λh=>.rr [h]) (.ie [g a 0,I 1] λj=>.A0 j (.ca 51 [p,GM a] λk=>.rr [k]) (.ca 69 [GM a,S aXN] λm=>.A0 m (.ca 48 [p,GM a] λn=>.rr [n]) (.ca 75 [GM a,S aXP] λo=>.A0 o (.ca 48 [p,GM a] λs=>.rr [s]) (.ca 69 [GM a,S aYf] λu=>.A0 u (.ca 87 [p,I 9] λw=>.rr [w]) (.ca 69 [GM a,S aZe] λy=>.A0 y (.ca 87 [p,I 12] λz=>.rr [z]) (.ca 69 [GM a,S [116,114]] λa0=>.A0 a0 (.ca 87 [p,I 13] λa1=>.rr [a1]) (.ca 69 [GM a,S [116,100,32,116,104]] λa2=>.A0 a2 (.ca 87 [p,I 14] λa5=>.rr [a5]) (.ie [g a 0,I 2] λa7=>.A0 a7 (.ca 87 [p,I 7] λa8=>.rr [a8]) (.ie [g a 0,I 3] λb0=>.A0 b0 (.rr [ff]) (.ca 88 [p] λb1=>.nt [b1] λb2=>.A0 b2 (.ca 82 [p] λ_=>.rr [ff]) (.fa p 2 λ_ b3=>.op (.Cb 1) [S aXP] λb4=>.ca 89 [b3,b4] λ_=>.fa p 3 λ_ b5=>.ca 90 [b5] λ_=>.ca 91 [p] λ_=>.ca 92 [p] λ_=>.rr [tt])))))))))))))
def Kq:Gi cx 53 t53:=λ_ _=>AT
def t61(p:Ab):IT:=
 .cells 12 p λa=>.ie [g a 0,I 5] λb=>.A0 b (.Bz 101 [g a 11] λc=>.rr [c]) (.rr [ff])
def ï:GL cx 61 t61:=λ_=>AT
def t62(p q r:Ab):IT:=
 .ca 102 [p] λa=>.nt [a] λb=>.A0 b (.rr [.tuple []]) (.ie [r,I 0] λc=>.GY 100014 (.A0 c (.ca 103 [p,I 0] λd=>.op (.ext 0) [d] λe=>.op (.ext 1) [d] λf=>.rn [e,f]) (.rn [r,I 0])) (nx (λh=>.ca 104 [p,g h 0] λj=>.cells 13 j λk=>.GY 200005 (.iq [g k 0,I 1] λm=>.A0 m (.iq [g k 0,I 2] λn=>.A0 n (.iq [g k 0,I 4] λo=>.rn [o]) (.rn [ff])) (.rn [ff])) (nx (λs=>.A0 (g s 0) (.rr [.tuple []]) (.Ck p 0 λ_ _ u=>.ca 105 [u,g k 3,q] λw=>.op (.ext 0) [w] λy=>.op (.ext 1) [w] λz=>.ie [z,I 0] λa0=>.GY 100048 (.A0 a0 (.ca 106 [p,y,g h 0,g h 1] λ_=>.rn []) (.rn [])) (nx (λa1=>.rr [.tuple []]) λa1=>.rr [.tuple []]))) λs=>.rr [.tuple []])) λh=>.rr [.tuple []]))
def vX:Tf cx 62 t62:=λ_ _ _=>AT
end Go.Am
