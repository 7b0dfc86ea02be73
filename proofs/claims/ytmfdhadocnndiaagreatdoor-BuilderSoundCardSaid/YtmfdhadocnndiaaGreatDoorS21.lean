/- Lemmas -/
import Derived.Test.YtmfdhadocnndiaaGreatDoorS9
import Derived.Test.YtmfdhadocnndiaaGreatDoorS18
set_option linter.all false
namespace Go.Am
open Go
def t34(p:Aa):IT:=
 .ca 45 [p] λa=>.nt [a] λb=>.AM b (.rr [.tuple []]) (.fa p 4 λ_ c=>.store 1 c (I 7) (.fa p 2 λ_ d=>.ca 10 [d] λe=>.ib [e,I 1] λf=>.loop 3 [f] (λh=>.ih [g h 0,I 0] λj=>.AM j (.fa p 2 λ_ k=>.ca 8 [k,g h 0] λm=>.cells 4 m λn=>.ie [g h 0,I 0] λo=>.AM o (.CC p 9 λ_ _ s=>.AM s (.fa p 10 λ_ u=>.load (some 4) u λw=>.cells 4 w λy=>.ca 89 [p,a4 y,g h 0] λz=>.op (.ext 0) [z] λa0=>.op (.ext 1) [z] λa1=>.AM a1 (.fa p 4 λ_ a2=>.store 1 a2 a0 (.rr [g h 0])) (.ib [g h 0,I 1] λa5=>.rn [a5])) (.ca 89 [p,a4 n,g h 0] λa7=>.op (.ext 0) [a7] λa8=>.op (.ext 1) [a7] λb0=>.AM b0 (.fa p 4 λ_ b1=>.store 1 b1 a8 (.rr [g h 0])) (.ib [g h 0,I 1] λb2=>.rn [b2]))) (.ca 89 [p,a4 n,g h 0] λb3=>.op (.ext 0) [b3] λb4=>.op (.ext 1) [b3] λb5=>.AM b5 (.fa p 4 λ_ b6=>.store 1 b6 b4 (.rr [g h 0])) (.ib [g h 0,I 1] λb7=>.rn [b7]))) (.rx 0 [g h 0])) (lx 0 (λb8=>.rr [.tuple []]) λb8=>.rr [.tuple []])))
def vE:IZ cx 34 t34:=λ_=>AU
def t35(p q r:Aa):IT:=
 .cells 12 q λa=>.ca 45 [p] λb=>.nt [b] λc=>.AM c (.rr [.tuple []]) (.ca 62 [p,r] λd=>.op (.part 0 none) [d] λe=>.iq [e,I 4] λf=>.AM f (.rr [.tuple []]) (.ca 62 [p,r] λh=>.op (.part 6 none) [h] λj=>.ln [g a 8] λk=>.loop 4 [j,I 0] (λm=>.il [g m 1,k] λn=>.AM n (.ea 3 [g a 8,g m 1] λo=>.load (some 3) o λs=>.cells 3 s λu=>.ca 90 [g m 0,.func (.func 91) [] [.B3 [g u 0,g u 1,g u 2]]] λw=>.nt [w] λy=>.AM y (.fl (.B3 [g u 0,g u 1,g u 2]) 1 λ_ z=>.fl (.B3 [g u 0,g u 1,g u 2]) 2 λ_ a0=>.op (.B0 [I 0,S [],S []] [(1,1),(2,1)]) [z,a0] λa1=>.op (.Cb 3) [a1] λa2=>.FC 3 40 (g m 0) a2 λa5=>.ia [g m 1,I 1] λa7=>.rn [a5,a7]) (.ia [g m 1,I 1] λa8=>.rn [g m 0,a8])) (.rx 0 [g m 0,g m 1])) (lx 0 (λb0=>.CC p 0 λ_ _ b1=>.ca 92 [b1,r,g b0 0] λ_=>.rr [.tuple []]) λb0=>.rr [.tuple []])))
def vF:QI cx 35 t35:=λ_ _ _=>AU
def t36(p:Aa):IT:=
 .ca 45 [p] λa=>.nt [a] λb=>.AM b (.rr [.tuple []]) (.fa p 2 λ_ c=>.ca 93 [c,S aLI] λd=>.il [d,I 0] λe=>.AM e (.rr [.tuple []]) (.fa p 2 λ_ f=>.ca 94 [f] λ_=>.fa p 2 λ_ h=>.op (.Cb 1) [S aLI] λj=>.ca 42 [h,j] λ_=>.fa p 3 λ_ k=>.ca 41 [k] λ_=>.CC p 6 λ_ _ m=>.ln [m] λn=>.ig [n,I 0] λo=>.AM o (.CC p 6 λ_ _ s=>.ib [n,I 1] λu=>.op (.Qo 1 false false true) [s,u] λw=>.ca 46 [w] λy=>.fa p 6 λ_ z=>.store 1 z y (.ca 34 [p] λ_=>.rr [.tuple []])) (.ca 34 [p] λ_=>.rr [.tuple []])))
def eM:IZ cx 36 t36:=λ_=>AU
def t37(p:Aa):IT:=
 .ca 45 [p] λa=>.AM a (.fa p 19 λ_ b=>.store 1 b tt (.rr [.tuple []])) (.rr [.tuple []])
def th:IZ cx 37 t37:=λ_=>AU
def t38(p:Aa):IT:=
 .op (.UB true) [p,.ptr none] λa=>.AM a (.CC p 0 λ_ _ b=>.op (.B0 [I 0,S [],.slnil] []) [] λc=>.CC p 0 λ_ _ d=>.ln [d] λe=>.ca 95 [b,c,e] λf=>.fa p 0 λ_ h=>.store 1 h f (.rr [.tuple []])) (.rr [.tuple []])
def tj:IZ cx 38 t38:=λ_=>AU
def t39(p:Aa):IT:=
 .cells 4 p λa=>.op (.B0 [I 0,I 0,S [],ff] [(0,1),(1,1),(2,1),(3,1)]) [g a 0,g a 1,g a 2,g a 3] λb=>.cells 4 b λc=>.rr [a4 c]
def tk:IZ cx 39 t39:=λ_=>AU
def Ē(p:Aa):IT:=
 .ca 10 [p] λa=>.il [a,I 2] λb=>.AM b (.op (.B0 [I 0,I 0,S [],ff] []) [] λc=>.cells 4 c λd=>.rr [a4 d]) (.ca 68 [p] λe=>.cells 4 e λf=>.CC p 0 λ_ _ h=>.CC p 0 λ_ _ j=>.ln [j] λk=>.ib [k,I 1] λm=>.op (.Qo 4 false false true) [h,m] λn=>.fa p 0 λ_ o=>.store 1 o n (.cells 4 (a4 f) λs=>.rr [a4 s]))
def XE:IZ cx 40 Ē:=λ_=>AU
def t41(p:Aa):IT:=
 .op (.UB false) [p,.ptr none] λa=>.AM a (.rr [I 0]) (.CC p 0 λ_ _ b=>.ln [b] λc=>.CC p 0 λ_ d e=>.ca 96 [p] λf=>.ld d λh=>.same e h (.ib [f,I 1] λj=>.op (.JM true) [j,I 0] λk=>.op (.Qo 3 false false true) [e,k] λm=>.fa p 0 λ_ n=>.store 1 n m (.CC p 0 λ_ _ o=>.ln [o] λs=>.ib [c,s] λu=>.rr [u])))
def tl:IZ cx 41 t41:=λ_=>AU
def t42(p q:Aa):IT:=
 .cells 1 q λa=>.ca 97 [p,.func (.func 98) [] [],.func (.func 99) [] [.B3 [g a 0]]] λb=>.rr [b]
def tn:Gl cx 42 t42:=λ_ _=>AU
def t43(p q r u:Aa):IT:=
 .cells 12 q λa=>.DW 200001 (.ca 45 [p] λb=>.nt [b] λc=>.AM c (.rn [tt]) (.il [r,I 0] λd=>.AM d (.rn [tt]) (.ig [r,I 7] λe=>.rn [e]))) (nx (λf=>.AM (g f 0) (.op (.B0 [I 0,I 0,S [],ff] []) [] λh=>.cells 4 h λj=>.rr [a4 j]) (.ca 101 [r,g a 8] λk=>.ie [r,I 2] λm=>.DW 100032 (.AM m (.Cx 102 [g a 1] λn=>.rn [n]) (.rn [g a 1])) (nx (λo=>.CC p 0 λ_ s w=>.ca 104 [p,u] λy=>.ld s λz=>.same w z (.ca 103 [w,y,r,g o 0,k] λa0=>.op (.ext 0) [a0] λa1=>.op (.ext 1) [a0] λa2=>.iq [a2,I 0] λa5=>.AM a5 (.op (.B0 [I 0,I 0,S [],ff] []) [] λa7=>.cells 4 a7 λa8=>.rr [a4 a8]) (.ca 78 [r,g o 0,k] λb0=>.op (.B0 [I 0,I 0,S [],ff] [(0,1),(1,1),(2,1),(3,1)]) [a1,r,g o 0,b0] λb1=>.cells 4 b1 λb2=>.rr [a4 b2]))) λo=>.rr [.agg [I 0,I 0,S [],ff]]))) λf=>.rr [.agg [I 0,I 0,S [],ff]])
def eO:ú cx 43 t43:=λ_ _ _ _=>AU
def t44(p:Aa):IT:=
 .fa p 0 λ_ a=>.load (some 13) a λb=>.cells 13 b λc=>.fa p 0 λ_ d=>.fl d 2 λ_ e=>.fa p 0 λ_ f=>.fl f 6 λh j=>.ca 105 [e] λk=>.ld h λm=>.same j m (.ca 100047 [j] λn=>.cells 1 k λo=>.cells 1 n λs=>.cells 13 (.agg [g c 0,g c 1,g o 0,g c 3,g c 4,g c 5,g s 0,g c 7,g c 8,g c 9,g c 10,g c 11,g c 12]) λu=>.rr [aO u])
def vG:IZ cx 44 t44:=λ_=>AU
def t45(p:Aa):IT:=
 .op (.UB true) [p,.ptr none] λa=>.AM a (.CC p 0 λ_ _ b=>.op (.UB true) [b,.ptr none] λc=>.rr [c]) (.rr [ff])
def vH:IZ cx 45 t45:=λ_=>AU
def t46(p:Aa):IT:=
 .op (.Gb false .sl) [p,.slnil] λa=>.AM a (.rr [.slnil]) (.op (.Fb 1) [] λb=>.op (.append 1 8) [b,p] λc=>.rr [c])
def Ub:IZ cx 46 t46:=λ_=>AU
def t47(p:Aa):IT:=
 .op (.Gb false .sl) [p,.slnil] λa=>.AM a (.rr [.slnil]) (.op (.Cb 3) [] λb=>.FD 3 40 b p λc=>.rr [c])
def eP:IZ cx 47 t47:=λ_=>AU
def t48(p q:Aa):IT:=
 .ih [p,I 1] λa=>.AM a (.ld q λb=>.ln [b] λc=>.ik [p,c] λd=>.rr [d]) (.rr [ff])
def tq:Gl cx 48 t48:=λ_ _=>AU
def t49(p:Aa):IT:=
 .DW 200001 (.CC p 0 λ_ _ a=>.ie [a,I 1] λb=>.AM b (.rn [tt]) (.CC p 0 λ_ _ c=>.ie [c,I 2] λd=>.AM d (.rn [tt]) (.CC p 0 λ_ _ e=>.ie [e,I 4] λf=>.rn [f]))) (nx (λh=>.CC p 0 λ_ j k=>.ie [k,I 4] λm=>.CC p 0 λ_ n o=>.ie [o,I 3] λs=>.op .JL [p] λu=>.load (some 13) u λw=>.op (.B0 [I 0,I 0,.slnil,I 0,I 0,S [],.slnil,S [],S [],S [],ff,I 0,I 0] [(0,13)]) [w] λy=>.alloc 13 y λz=>.ld n λa0=>.same o a0 (.ld j λa1=>.same k a1 (.ca 50 [z] λa2=>.ld n λa5=>.same o a5 (.ld j λa7=>.same k a7 (.DW 200003 (.CC p 0 λ_ _ a8=>.il [a8,I 1] λb0=>.AM b0 (.rn [tt]) (.CC p 0 λ_ _ b1=>.ig [b1,I 6] λb2=>.AM b2 (.rn [tt]) (.CC p 2 λ_ _ b3=>.ln [b3] λb4=>.ig [b4,I 0] λb5=>.AM b5 (.nt [g h 0] λb6=>.AM b6 (.rn [tt]) (.CC p 4 λ_ _ b7=>.op (.Cb 1) [b7] λb8=>.ca 106 [b8] λb9=>.nt [b9] λc0=>.rn [c0])) (.CC p 4 λ_ _ c1=>.op (.Cb 1) [c1] λc2=>.ca 106 [c2] λc3=>.nt [c3] λc4=>.rn [c4])))) (nx (λc5=>.AM (g c5 0) (.rr [ff]) (.DW 200005 (.nt [m] λc6=>.AM c6 (.CC p 4 λ_ _ c7=>.iq [c7,I 0] λc8=>.AM c8 (.rn [tt]) (.CC p 6 λ_ _ c9=>.ln [c9] λd0=>.ig [d0,I 0] λd1=>.AM d1 (.rn [tt]) (.nt [m] λd2=>.AM d2 (.nt [s] λd3=>.AM d3 (.CC p 5 λ_ _ d4=>.op (.str .neq) [d4,S []] λd5=>.AM d5 (.rn [tt]) (.nt [s] λd6=>.AM d6 (.CC p 8 λ_ _ d7=>.op (.str .neq) [d7,S []] λd8=>.AM d8 (.rn [tt]) (.CC p 9 λ_ _ d9=>.op (.str .neq) [d9,S []] λe0=>.rn [e0])) (.rn [ff]))) (.nt [s] λe1=>.AM e1 (.CC p 8 λ_ _ e2=>.op (.str .neq) [e2,S []] λe3=>.AM e3 (.rn [tt]) (.CC p 9 λ_ _ e4=>.op (.str .neq) [e4,S []] λe5=>.rn [e5])) (.rn [ff]))) (.nt [s] λe6=>.AM e6 (.CC p 8 λ_ _ e7=>.op (.str .neq) [e7,S []] λe8=>.AM e8 (.rn [tt]) (.CC p 9 λ_ _ e9=>.op (.str .neq) [e9,S []] λf0=>.rn [f0])) (.rn [ff]))))) (.nt [m] λf1=>.AM f1 (.nt [s] λf2=>.AM f2 (.CC p 5 λ_ _ f3=>.op (.str .neq) [f3,S []] λf4=>.AM f4 (.rn [tt]) (.nt [s] λf5=>.AM f5 (.CC p 8 λ_ _ f6=>.op (.str .neq) [f6,S []] λf7=>.AM f7 (.rn [tt]) (.CC p 9 λ_ _ f8=>.op (.str .neq) [f8,S []] λf9=>.rn [f9])) (.rn [ff]))) (.nt [s] λh0=>.AM h0 (.CC p 8 λ_ _ h1=>.op (.str .neq) [h1,S []] λh2=>.AM h2 (.rn [tt]) (.CC p 9 λ_ _ h3=>.op (.str .neq) [h3,S []] λh4=>.rn [h4])) (.rn [ff]))) (.nt [s] λh5=>.AM h5 (.CC p 8 λ_ _ h6=>.op (.str .neq) [h6,S []] λh7=>.AM h7 (.rn [tt]) (.CC p 9 λ_ _ h8=>.op (.str .neq) [h8,S []] λh9=>.rn [h9])) (.rn [ff])))) (nx (λj0=>.AM (g j0 0) (.rr [ff]) (.DW 200007 (.CC p 7 λ_ _ j1=>.op (.str .neq) [j1,S []] λj2=>.AM j2 (.CC p 0 λ_ _ j3=>.iq [j3,I 5] λj4=>.AM j4 (.CC p 0 λ_ _ j5=>.iq [j5,I 6] λj6=>.AM j6 (.rn [tt]) (.CC p 10 λ_ _ j7=>.AM j7 (.CC p 0 λ_ _ j8=>.iq [j8,I 1] λj9=>.rn [j9]) (.rn [ff]))) (.CC p 10 λ_ _ k0=>.AM k0 (.CC p 0 λ_ _ k1=>.iq [k1,I 1] λk2=>.rn [k2]) (.rn [ff]))) (.CC p 10 λ_ _ k3=>.AM k3 (.CC p 0 λ_ _ k4=>.iq [k4,I 1] λk5=>.rn [k5]) (.rn [ff]))) (nx (λk6=>.AM (g k6 0) (.rr [ff]) (.DW 200009 (.CC p 11 λ_ _ k7=>.iq [k7,I 0] λk8=>.op (.beq true) [a2,k8] λk9=>.AM k9 (.rn [tt]) (.CC p 12 λ_ _ m0=>.iq [m0,I 0] λm1=>.AM m1 (.CC p 0 λ_ _ m2=>.iq [m2,I 2] λm3=>.rn [m3]) (.rn [ff]))) (nx (λm4=>.AM (g m4 0) (.rr [ff]) (.CC p 6 λ_ _ m5=>.ca 107 [m5] λm6=>.op (.ext 0) [m6] λm7=>.op (.ext 1) [m6] λm8=>.DW 200012 (.AM m8 (.ln [m7] λm9=>.CC p 6 λ_ _ n0=>.ln [n0] λn1=>.ie [m9,n1] λn2=>.rn [n2]) (.rn [ff])) (nx (λn3=>.rr [g n3 0]) λn3=>.rr [g n3 0]))) λm4=>.rr [ff]))) λk6=>.rr [ff]))) λj0=>.rr [ff]))) λc5=>.rr [ff])))))) λh=>.rr [ff])
def tr:IZ cx 49 t49:=λ_=>AU
def t50(p:Aa):IT:=
 .fa p 0 λ_ a=>.fl a 0 λ_ b=>.ie [b,I 4] λc=>.AM c (.fa p 0 λ_ d=>.fl d 4 λ_ e=>.ie [e,I 1] λf=>.AM f (.fa p 0 λ_ h=>.fl h 5 λ_ j=>.se [j,S aLI] λk=>.rr [k]) (.rr [ff])) (.rr [ff])
def eQ:IZ cx 50 t50:=λ_=>AU
def t51(p:Aa):IT:=
 .ln [p] λa=>.ia [a,I 1] λb=>.make 1 1 [ff] b b λc=>.ln [p] λd=>.loop 3 [ff,I 0] (λe=>.il [g e 1,d] λf=>.AM f (.ea 13 [p,g e 1] λh=>.fl h 2 λ_ j=>.ln [j] λk=>.loop 6 [g e 0,I 0] (λm=>.il [g m 1,k] λn=>.AM n (.ea 1 [j,g m 1] λo=>.ld o λs=>.ea 1 [c,s] λu=>.ld u λw=>.AM w (.rr [ff,g m 1]) (.ea 1 [c,s] λy=>.store 1 y tt (.ia [g m 1,I 1] λz=>.rn [g m 0,z]))) (.rx 2 [g m 0,g m 1])) (λx a0=>match x with| .normal=>.fail| .exit i=>if i=2 then .ia [g e 1,I 1] λa1=>.rn [g a0 0,a1] else if i=1 then .ia [g e 1,I 1] λa2=>.rn [g a0 0,a2] else .ret (.exit i) [g a0 0,g e 1]| .ret=>.rr [g a0 0,g e 1])) (.rx 0 [g e 0,g e 1])) (lx 0 (λa5=>.ln [p] λa7=>.loop 14 [g a5 0,I 0] (λa8=>.il [g a8 1,a7] λb0=>.AM b0 (.ia [g a8 1,I 1] λb1=>.ea 1 [c,b1] λb2=>.ld b2 λb3=>.ea 13 [p,g a8 1] λb4=>.fl b4 1 λ_ b5=>.iq [b5,I 0] λb6=>.op (.beq true) [b3,b6] λb7=>.AM b7 (.rr [ff,g a8 1]) (.ia [g a8 1,I 1] λb8=>.rn [g a8 0,b8])) (.rx 4 [g a8 0,g a8 1])) (lx 4 (λb9=>.rr [tt]) λb9=>.rr [g b9 0])) λa5=>.rr [g a5 0])
def tv:IZ cx 51 t51:=λ_=>AU
def t53(p:Aa):IT:=
 .cells 13 p λa=>.ie [g a 0,I 4] λb=>.DW 200002 (.il [g a 0,I 1] λc=>.AM c (.rn [tt]) (.ig [g a 0,I 6] λd=>.rn [d])) (nx (λe=>.AM (g e 0) (.rr [ff]) (.DW 200004 (.nt [b] λf=>.AM f (.iq [g a 0,I 1] λh=>.AM h (.iq [g a 0,I 2] λj=>.AM j (.ln [g a 2] λk=>.ig [k,I 0] λm=>.rn [m]) (.rn [ff])) (.rn [ff])) (.rn [ff])) (nx (λn=>.AM (g n 0) (.rr [ff]) (.DW 200006 (.nt [b] λo=>.AM o (.iq [g a 4,I 0] λs=>.AM s (.rn [tt]) (.ln [g a 6] λu=>.ig [u,I 0] λw=>.AM w (.rn [tt]) (.iq [g a 0,I 3] λy=>.AM y (.op (.str .neq) [g a 5,S []] λz=>.rn [z]) (.rn [ff])))) (.rn [ff])) (nx (λa0=>.AM (g a0 0) (.rr [ff]) (.DW 200008 (.iq [g a 0,I 3] λa1=>.AM a1 (.op (.str .neq) [g a 8,S []] λa2=>.AM a2 (.rn [tt]) (.op (.str .neq) [g a 9,S []] λa5=>.rn [a5])) (.rn [ff])) (nx (λa7=>.AM (g a7 0) (.rr [ff]) (.DW 200010 (.iq [g a 0,I 5] λa8=>.AM a8 (.iq [g a 0,I 6] λb0=>.AM b0 (.op (.str .neq) [g a 7,S []] λb1=>.rn [b1]) (.rn [ff])) (.rn [ff])) (nx (λb2=>.AM (g b2 0) (.rr [ff]) (.DW 200012 (.ie [g a 0,I 1] λb3=>.AM b3 (.ca 109 [aO a] λb4=>.AM b4 (.ie [g a 0,I 2] λb5=>.AM b5 (.rn [tt]) (.ie [g a 12,I 0] λb6=>.rn [b6])) (.ie [g a 11,I 0] λb7=>.AM b7 (.ie [g a 0,I 2] λb8=>.AM b8 (.rn [tt]) (.ie [g a 12,I 0] λb9=>.rn [b9])) (.rn [ff]))) (.nt [g a 10] λc1=>.AM c1 (.ca 109 [aO a] λc2=>.AM c2 (.ie [g a 0,I 2] λc3=>.AM c3 (.rn [tt]) (.ie [g a 12,I 0] λc5=>.rn [c5])) (.ie [g a 11,I 0] λc6=>.AM c6 (.ie [g a 0,I 2] λc7=>.AM c7 (.rn [tt]) (.ie [g a 12,I 0] λc8=>.rn [c8])) (.rn [ff]))) (.rn [ff]))) (nx (λc9=>.rr [g c9 0]) λc9=>.rr [g c9 0]))) λb2=>.rr [ff]))) λa7=>.rr [ff]))) λa0=>.rr [ff]))) λn=>.rr [ff]))) λe=>.rr [ff])
def tw:IZ cx 53 t53:=λ_=>AU
def t54(p:Aa):IT:=
 .ih [p,I 0] λa=>.AM a (.ik [p,I 7] λb=>.rr [b]) (.rr [ff])
def tz:IZ cx 54 t54:=λ_=>AU
def t55(p:Aa):IT:=
 .loop 2 [ff,I 0] (λa=>.ln [p] λb=>.il [g a 1,b] λc=>.AM c (.ea 3 [p,g a 1] λd=>.fl d 0 λ_ e=>.Cx 54 [e] λf=>.nt [f] λh=>.AM h (.rr [ff,g a 1]) (.ia [g a 1,I 1] λj=>.rn [g a 0,j])) (.rx 0 [g a 0,g a 1])) (lx 0 (λk=>.rr [tt]) λk=>.rr [g k 0])
def t_:IZ cx 55 t55:=λ_=>AU
def t56(p:Aa):IT:=
 .loop 3 [.slnil,I 0] (λa=>.ln [p] λb=>.il [g a 1,b] λc=>.AM c (.loop 7 [ff,I 0] (λd=>.ln [g a 0] λe=>.il [g d 1,e] λf=>.AM f (.ea 3 [g a 0,g d 1] λh=>.fl h 0 λ_ j=>.ea 3 [p,g a 1] λk=>.fl k 0 λ_ m=>.ie [j,m] λn=>.AM n (.ea 3 [g a 0,g d 1] λo=>.fl o 1 λ_ s=>.ea 3 [p,g a 1] λu=>.fl u 1 λ_ w=>.se [s,w] λy=>.AM y (.ia [g d 1,I 1] λz=>.rn [tt,z]) (.ia [g d 1,I 1] λa0=>.rn [g d 0,a0])) (.ia [g d 1,I 1] λa1=>.rn [g d 0,a1])) (.rx 2 [g d 0,g d 1])) (λx a2=>match x with| .normal=>.fail| .exit i=>if i=2 then .nt [g a2 0] λa5=>.AM a5 (.ea 3 [p,g a 1] λa7=>.load (some 3) a7 λa8=>.op (.Cb 3) [a8] λb0=>.op (.append 3 40) [g a 0,b0] λb1=>.ia [g a 1,I 1] λb2=>.rn [b1,b2]) (.ia [g a 1,I 1] λb3=>.rn [g a 0,b3]) else if i=1 then .ia [g a 1,I 1] λb4=>.rn [g a 0,b4] else .ret (.exit i) [g a 0,g a 1]| .ret=>.rr [g a 0,g a 1])) (.rx 0 [g a 0,g a 1])) (lx 0 (λb5=>.rr [g b5 0]) λb5=>.rr [.slnil])
def ua:IZ cx 56 t56:=λ_=>AU
def t57(p q:Aa):IT:=
 .CC p 0 λ_ _ a=>.ea 13 [a,q] λb=>.load (some 13) b λc=>.cells 13 c λd=>.iq [g d 1,I 0] λe=>.AM e (.ca 110 [p,g d 1] λf=>.nt [f] λh=>.AM h (.rr [ff]) (.ie [g d 0,I 1] λj=>.AM j (.rr [ff]) (.ie [g d 0,I 2] λk=>.AM k (.rr [ff]) (.CC p 0 λ_ _ m=>.ea 13 [m,g d 1] λn=>.fl n 2 λ_ o=>.ca 111 [o,q] λs=>.il [s,I 0] λu=>.AM u (.rr [ff]) (.loop 6 [ff,I 0] (λw=>.ln [g d 2] λy=>.il [g w 1,y] λz=>.AM z (.ea 1 [g d 2,g w 1] λa0=>.ld a0 λa1=>.ca 110 [p,a1] λa2=>.nt [a2] λa5=>.AM a5 (.rr [ff,g w 1]) (.CC p 0 λ_ _ a7=>.ea 1 [g d 2,g w 1] λa8=>.ld a8 λb0=>.ea 13 [a7,b0] λb1=>.fl b1 1 λ_ b2=>.iq [b2,q] λb3=>.AM b3 (.rr [ff,g w 1]) (.ea 1 [g d 2,g w 1] λb4=>.ld b4 λb5=>.ca 111 [g d 2,b5] λb6=>.iq [b6,g w 1] λb7=>.AM b7 (.rr [ff,g w 1]) (.ia [g w 1,I 1] λb8=>.rn [g w 0,b8])))) (.rx 0 [g w 0,g w 1])) (lx 0 (λb9=>.rr [tt]) λb9=>.rr [g b9 0])))))) (.loop 6 [ff,I 0] (λc0=>.ln [g d 2] λc1=>.il [g c0 1,c1] λc2=>.AM c2 (.ea 1 [g d 2,g c0 1] λc3=>.ld c3 λc4=>.ca 110 [p,c4] λc6=>.nt [c6] λc7=>.AM c7 (.rr [ff,g c0 1]) (.CC p 0 λ_ _ c8=>.ea 1 [g d 2,g c0 1] λc9=>.ld c9 λd0=>.ea 13 [c8,d0] λd1=>.fl d1 1 λ_ d2=>.iq [d2,q] λd3=>.AM d3 (.rr [ff,g c0 1]) (.ea 1 [g d 2,g c0 1] λd4=>.ld d4 λd5=>.ca 111 [g d 2,d5] λd6=>.iq [d6,g c0 1] λd7=>.AM d7 (.rr [ff,g c0 1]) (.ia [g c0 1,I 1] λd8=>.rn [g c0 0,d8])))) (.rx 0 [g c0 0,g c0 1])) (lx 0 (λd9=>.rr [tt]) λd9=>.rr [g d9 0]))
def ub:Gl cx 57 t57:=λ_ _=>AU
def t58(p q:Aa):IT:=
 .CC p 0 λ_ _ a=>.ea 13 [a,q] λb=>.load (some 13) b λc=>.cells 13 c λd=>.ca 110 [p,g d 3] λe=>.nt [e] λf=>.AM f (.rr [ff]) (.CC p 0 λ_ _ h=>.ea 13 [h,g d 3] λj=>.fl j 0 λ_ k=>.iq [k,I 1] λm=>.AM m (.rr [ff]) (.ie [g d 0,I 1] λn=>.AM n (.iq [g d 3,q] λo=>.AM o (.rr [ff]) (.ca 109 [aO d] λs=>.AM s (.ca 110 [p,g d 11] λu=>.nt [u] λw=>.AM w (.rr [ff]) (.CC p 0 λ_ _ y=>.ea 13 [y,g d 11] λz=>.fl z 0 λ_ a0=>.iq [a0,I 2] λa1=>.AM a1 (.rr [ff]) (.CC p 0 λ_ _ a2=>.ea 13 [a2,g d 11] λa5=>.fl a5 12 λ_ a7=>.iq [a7,q] λa8=>.AM a8 (.rr [ff]) (.ie [g d 12,I 0] λb0=>.AM b0 (.rr [tt]) (.ca 110 [p,g d 12] λb1=>.AM b1 (.CC p 0 λ_ _ b2=>.ea 13 [b2,g d 12] λb3=>.load (some 13) b3 λb4=>.ca 109 [b4] λb5=>.AM b5 (.CC p 0 λ_ _ b6=>.ea 13 [b6,g d 12] λb7=>.fl b7 11 λ_ b8=>.ie [b8,q] λb9=>.rr [b9]) (.rr [ff])) (.rr [ff])))))) (.ie [g d 12,I 0] λc0=>.AM c0 (.rr [tt]) (.ca 110 [p,g d 12] λc1=>.AM c1 (.CC p 0 λ_ _ c2=>.ea 13 [c2,g d 12] λc3=>.load (some 13) c3 λc4=>.ca 109 [c4] λc6=>.AM c6 (.CC p 0 λ_ _ c7=>.ea 13 [c7,g d 12] λc8=>.fl c8 11 λ_ c9=>.ie [c9,q] λd0=>.rr [d0]) (.rr [ff])) (.rr [ff]))))) (.ca 109 [aO d] λd1=>.AM d1 (.ca 110 [p,g d 11] λd2=>.nt [d2] λd3=>.AM d3 (.rr [ff]) (.CC p 0 λ_ _ d4=>.ea 13 [d4,g d 11] λd5=>.fl d5 0 λ_ d6=>.iq [d6,I 2] λd7=>.AM d7 (.rr [ff]) (.CC p 0 λ_ _ d8=>.ea 13 [d8,g d 11] λd9=>.fl d9 12 λ_ e0=>.iq [e0,q] λe1=>.AM e1 (.rr [ff]) (.ie [g d 12,I 0] λe2=>.AM e2 (.rr [tt]) (.ca 110 [p,g d 12] λe3=>.AM e3 (.CC p 0 λ_ _ e4=>.ea 13 [e4,g d 12] λe5=>.load (some 13) e5 λe6=>.ca 109 [e6] λe7=>.AM e7 (.CC p 0 λ_ _ e8=>.ea 13 [e8,g d 12] λe9=>.fl e9 11 λ_ f0=>.ie [f0,q] λf1=>.rr [f1]) (.rr [ff])) (.rr [ff])))))) (.ie [g d 12,I 0] λf2=>.AM f2 (.rr [tt]) (.ca 110 [p,g d 12] λf3=>.AM f3 (.CC p 0 λ_ _ f4=>.ea 13 [f4,g d 12] λf5=>.load (some 13) f5 λf6=>.ca 109 [f6] λf7=>.AM f7 (.CC p 0 λ_ _ f8=>.ea 13 [f8,g d 12] λf9=>.fl f9 11 λ_ h0=>.ie [h0,q] λh1=>.rr [h1]) (.rr [ff])) (.rr [ff]))))))
def uc:Gl cx 58 t58:=λ_ _=>AU
def t59(p q:Aa):IT:=
 .ca 112 [p,q] λa=>.loop 3 [ff,a,I 0] (λb=>.iq [g b 1,I 0] λc=>.AM c (.CC p 0 λ_ _ d=>.ln [d] λe=>.il [g b 2,e] λf=>.AM f (.ie [g b 1,q] λh=>.AM h (.rr [tt,g b 1,g b 2]) (.ca 112 [p,g b 1] λj=>.ia [g b 2,I 1] λk=>.rn [g b 0,j,k])) (.rx 0 [g b 0,g b 1,g b 2])) (.rx 0 [g b 0,g b 1,g b 2])) (lx 0 (λm=>.rr [ff]) λm=>.rr [g m 0])
def ud:Gl cx 59 t59:=λ_ _=>AU
def t60(p q:Aa):IT:=
 .cells 3 q λa=>.op (.UB false) [p,.ptr none] λb=>.AM b (.rr [.tuple []]) (.iq [g a 0,I 0] λc=>.DW 100011 (.AM c (.CC p 0 λ_ _ d=>.ln [d] λe=>.ib [e,I 1] λf=>.loop 5 [I 0,I 0,f] (λh=>.ca 96 [p] λj=>.ih [g h 2,j] λk=>.AM k (.CC p 0 λ_ _ m=>.ea 3 [m,g h 2] λn=>.load (some 3) n λo=>.ca 113 [o,a3 a] λs=>.DW 100032 (.AM s (.ia [g h 1,I 1] λu=>.rn [g h 2,u]) (.rn [g h 0,g h 1])) (λx w=>match x with| .normal=>.ib [g h 2,I 1] λy=>.rn [g w 0,g w 1,y]| .exit i=>if i=1 then .ib [g h 2,I 1] λz=>.rn [g w 0,g w 1,z] else .ret (.exit i) [g w 0,g w 1,g h 2]| .ret=>.rr [g w 0,g w 1,g h 2])) (.rx 0 [g h 0,g h 1,g h 2])) (λx a0=>match x with| .normal=>.fail| .exit i=>if i=0 then .ih [g a0 1,I 3] λa1=>.DW 100037 (.AM a1 (.CC p 0 λ_ _ a2=>.ca 114 [a2,g a0 0] λa5=>.fa p 0 λ_ a7=>.store 1 a7 a5 (.rn [])) (.rn [])) (λx _=>.ret x []) else .ret (.exit i) []| .ret=>.rr [])) (.rn [])) (nx (λa8=>.CC p 0 λ_ b0 b1=>.CC p 0 λ_ b2 b3=>.ln [b3] λb4=>.ca 115 [a3 a] λb5=>.ld b2 λb6=>.same b3 b6 (.ld b0 λb7=>.same b1 b7 (.ca 95 [b1,b5,b4] λb8=>.fa p 0 λ_ b9=>.store 1 b9 b8 (.rr [.tuple []])))) λa8=>.rr [.tuple []]))
def vI:Gl cx 60 t60:=λ_ _=>AU
def t61(p q:Aa):IT:=
 .ca 45 [p] λa=>.nt [a] λb=>.AM b (.rr [.tuple [I 0,I 0]]) (.ie [q,I 0] λc=>.DW 100012 (.AM c (.fa p 2 λ_ d=>.ca 10 [d] λe=>.ie [e,I 0] λf=>.AM f (.CC p 1 λ_ _ h=>.rr [q,h,I 0]) (.ca 19 [p] λj=>.op (.part 0 none) [j] λk=>.rn [k,I 0,I 0])) (.rn [q,I 0,I 0])) (nx (λm=>.ca 62 [p,g m 0] λn=>.cells 13 n λo=>.DW 200009 (.CC p 15 λ_ _ s=>.AM s (.ie [g o 0,I 4] λu=>.AM u (.op (.B0 [I 0,I 0,S [],ff] [(1,1),(2,1)]) [g o 4,g o 5] λw=>.op (.Cb 1) [S aLK,S aL0,S aLW,S aL1,S [116,114]] λy=>.ca 69 [w,y] λz=>.rn [z]) (.rn [ff])) (.rn [ff])) (nx (λa0=>.DW 100046 (.AM (g a0 0) (.ca 116 [p] λa1=>.op (.ext 0) [a1] λa2=>.op (.ext 1) [a1] λa5=>.rn [a2,a5]) (.rn [g m 0,g m 2])) (nx (λa7=>.ca 62 [p,g a7 0] λa8=>.cells 13 a8 λb0=>.iq [g b0 11,I 0] λb1=>.AM b1 (.rr [.tuple [g b0 11,I 0]]) (.rr [.tuple [g a7 0,g a7 1]])) λa7=>.rr [.tuple [g a7 0,g a7 1]])) λa0=>.rr [.tuple [g m 0,g m 2]])) λm=>.rr [.tuple [g m 1,g m 2]]))
def eR:Gl cx 61 t61:=λ_ _=>AU
def t62(p q:Aa):IT:=
 .CC p 0 λ_ _ a=>.ca 79 [a,q] λb=>.op (.ext 0) [b] λc=>.op (.ext 1) [b] λ_=>.cells 13 c λd=>.cells 13 (aO d) λe=>.rr [aO e]
def vJ:Gl cx 62 t62:=λ_ _=>AU
def t63(p q:Aa):IT:=
 .ln [p] λa=>.loop 2 [I 0,I 0] (λb=>.il [g b 1,a] λc=>.AM c (.ea 1 [p,g b 1] λd=>.ld d λe=>.ie [q,e] λf=>.AM f (.rr [g b 1,g b 1]) (.ia [g b 1,I 1] λh=>.rn [g b 0,h])) (.rx 0 [g b 0,g b 1])) (lx 0 (λj=>.rr [I (-1)]) λj=>.rr [g j 0])
def vK:Gl cx 63 t63:=λ_ _=>AU
def t64(p q:Aa):IT:=
 .op (.conv .u32) [q] λa=>.ik [a,.int .u32 127] λb=>.AM b (.op (.conv .u8) [q] λc=>.op (.Cb 1) [c] λd=>.FC 1 1 p d λe=>.rr [e]) (.ca 117 [p,q] λf=>.rr [f])
def vL:Gl cx 64 t64:=λ_ _=>AU
def t65(p q r:Aa):IT:=
 .op (.Cb 1) [q] λa=>.ca 118 [p,a] λb=>.iq [b,I 0] λc=>.AM c (.rr [b]) (.ca 76 [p,q] λd=>.fa d 0 λ_ e=>.fl e 0 λ_ f=>.iq [f,I 5] λh=>.AM h (.fa d 0 λ_ j=>.fl j 0 λ_ k=>.iq [k,I 6] λm=>.AM m (.rr [I 9]) (.fa d 0 λ_ n=>.op (.FB 7) [n] λo=>.store 1 o r (.rr [I 0]))) (.fa d 0 λ_ s=>.op (.FB 7) [s] λu=>.store 1 u r (.rr [I 0])))
def vM:QI cx 65 t65:=λ_ _ _=>AU
def t66(p q r:Aa):IT:=
 .op (.B0 [I 0,I 0,.slnil,I 0,I 0,S [],.slnil,S [],S [],S [],ff,I 0,I 0] [(0,1),(7,1)]) [I 5,r] λa=>.ca 119 [p,q,a] λb=>.op (.ext 0) [b] λc=>.op (.ext 1) [b] λd=>.rr [.tuple [c,d]]
def vN:QI cx 66 t66:=λ_ _ _=>AU
def C_(p q r u:Aa):IT:=
 .cells 1 p λa=>.ca 62 [g a 0,r] λb=>.op (.part 0 none) [b] λc=>.ie [c,I 1] λd=>.AM d (.ca 62 [g a 0,q] λe=>.op (.part 0 none) [e] λf=>.ie [f,I 4] λh=>.AM h (.CC (g a 0) 0 λ_ _ j=>.ca 121 [j,r] λk=>.ca 120 [k,.func (.func 122) [] [.B3 [g a 0]]] λm=>.AM m (.rr [.tuple []]) (.ld (.B3 [g a 0]) λn=>.CC n 0 λ_ _ o=>.ca 123 [o,r,q,u] λ_=>.rr [.tuple []])) (.CC (g a 0) 0 λ_ _ s=>.ca 123 [s,r,q,u] λ_=>.rr [.tuple []])) (.CC (g a 0) 0 λ_ _ w=>.ca 123 [w,r,q,u] λ_=>.rr [.tuple []])
def Uc:ú cx 67 C_:=λ_ _ _ _=>AU
def t68(p:Aa):IT:=
 .ca 10 [p] λa=>.ib [a,I 1] λb=>.ca 8 [p,b] λc=>.cells 4 c λd=>.rr [a4 d]
def vO:IZ cx 68 t68:=λ_=>AU
def t69(p q:Aa):IT:=
 .cells 4 p λa=>.ie [g a 1,I 1] λb=>.AM b (.ca 124 [q,g a 2] λc=>.rr [c]) (.rr [ff])
def vP:Gl cx 69 t69:=λ_ _=>AU
def t70(p q:Aa):IT:=
 .op (.UB false) [p,.ptr none] λa=>.AM a (.rr [I (-1)]) (.ie [q,I 0] λb=>.AM b (.rr [I (-1)]) (.CC p 0 λ_ _ c=>.ln [c] λd=>.ib [d,I 1] λe=>.loop 4 [I 0,e] (λf=>.ih [g f 1,I 0] λh=>.AM h (.CC p 0 λ_ _ j=>.ea 3 [j,g f 1] λk=>.fl k 0 λ_ m=>.ie [m,q] λn=>.AM n (.rr [g f 1,g f 1]) (.ib [g f 1,I 1] λo=>.rn [g f 0,o])) (.rx 0 [g f 0,g f 1])) (lx 0 (λs=>.rr [I (-1)]) λs=>.rr [g s 0])))
def vQ:Gl cx 70 t70:=λ_ _=>AU
def kb(p q:Aa):IT:=
 .fa p 3 λ_ a=>.ca 125 [a,q] λb=>.il [b,I 0] λc=>.AM c (.ca 33 [p,q] λ_=>.rr [ff]) (.fa p 3 λ_ d=>.fl d 0 λ_ e=>.ea 3 [e,b] λf=>.load (some 3) f λh=>.op (.B0 [I 0,S [],.slnil,I 0,I 0,I 0,I 0,S [],ff,I 0,I 0,S [],ff,I 0] [(0,3),(3,1),(4,1)]) [h,b,b] λj=>.alloc 14 j λk=>.fa k 0 λ_ m=>.fl m 0 λ_ n=>.fa p 2 λ_ o=>.ca 84 [o,n] λs=>.il [s,I 0] λu=>.AM u (.ca 126 [k,p,b] λ_=>.rr [ff]) (.ie [s,I 0] λw=>.AM w (.rr [ff]) (.fa p 2 λ_ y=>.ca 127 [y,I 1,n] λz=>.nt [z] λa0=>.AM a0 (.rr [ff]) (.fa p 2 λ_ a1=>.ca 128 [a1,n] λa2=>.il [a2,I 0] λa5=>.AM a5 (.fa p 2 λ_ a7=>.ca 87 [a7,n] λ_=>.ca 126 [k,p,b] λ_=>.rr [ff]) (.fa p 2 λ_ a8=>.ib [s,I 1] λb0=>.fa p 2 λ_ b1=>.ca 8 [a8,b0] λb2=>.ca 8 [b1,a2] λb3=>.fa k 5 λ_ b4=>.store 4 b4 b2 (.fa k 9 λ_ b5=>.store 4 b5 b3 (.fa k 9 λ_ b6=>.fl b6 0 λ_ b7=>.fa k 13 λ_ b8=>.store 1 b8 b7 (.ca 129 [p,k,s,a2] λ_=>.fa k 5 λ_ b9=>.fl b9 0 λ_ c0=>.ca 61 [p,c0] λc1=>.op (.ext 0) [c1] λc2=>.op (.ext 1) [c1] λc3=>.CC k 13 λ_ _ c4=>.ca 67 [p,c4,c2,c3] λ_=>.fa k 0 λ_ c5=>.load (some 3) c5 λc6=>.fa k 9 λ_ c7=>.fl c7 0 λc8 c9=>.ca 86 [c6] λd0=>.ld c8 λd1=>.same c9 d1 (.ca 43 [p,d0,I 1,c9] λd2=>.cells 4 d2 λd3=>.CC p 0 λ_ _ d4=>.fa k 9 λ_ d5=>.fl d5 0 λ_ d6=>.ca 121 [d4,d6] λd7=>.ln [d7] λd8=>.loop 25 [I 0] (λd9=>.il [g d9 0,d8] λe0=>.AM e0 (.ea 1 [d7,g d9 0] λe1=>.ld e1 λe2=>.ca 67 [p,e2,g d3 0,I 0] λ_=>.ia [g d9 0,I 1] λe3=>.rn [e3]) (.rx 0 [g d9 0])) (lx 0 (λe4=>.fa k 9 λ_ e5=>.fl e5 0 λ_ e6=>.ca 67 [p,g d3 0,e6,I 0] λ_=>.CC k 3 λ_ _ e7=>.ca 126 [k,p,e7] λ_=>.fa p 3 λ_ e8=>.fa k 0 λ_ e9=>.fl e9 1 λ_ f0=>.fa k 0 λ_ f1=>.fl f1 2 λ_ f2=>.op (.B0 [I 0,S [],.slnil] [(0,1),(1,1),(2,1)]) [g d3 0,f0,f2] λf3=>.CC k 4 λ_ _ f4=>.ca 130 [e8,f3,f4] λ_=>.fa p 2 λ_ f5=>.ca 131 [f5,n] λ_=>.fa p 2 λ_ f6=>.fa p 2 λ_ f7=>.fa k 9 λ_ f8=>.fl f8 0 λ_ f9=>.ca 84 [f7,f9] λh0=>.ia [h0,I 1] λh1=>.ca 132 [f6,a4 d3,h1] λ_=>.rr [tt]) λe4=>.rr [ff]))))))))))
def OZ:Gl cx 71 kb:=λ_ _=>AU
end Go.Am
