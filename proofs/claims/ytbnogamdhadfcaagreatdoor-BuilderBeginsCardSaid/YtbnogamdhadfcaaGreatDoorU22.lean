/- Lemmas -/
import Derived.Test.YtbnogamdhadfcaaGreatDoorU10
import Derived.Test.YtbnogamdhadfcaaGreatDoorU18
set_option linter.unusedVariables false
set_option linter.unusedSimpArgs false
namespace Go.Am
open Go
def t65(p:Aa):IT:=
 .call 52 [p] λa=>.nt [a] λb=>.AH b (.rr [.tuple []]) (.fa p 2 λ_ c=>.call 151 [c,S aSI] λd=>.il [d,I 0] λe=>.AH e (.rr [.tuple []]) (.fa p 2 λ_ f=>.call 152 [f] λ_=>.fa p 2 λ_ h=>.op (.By 1) [S aSI] λj=>.call 70 [h,j] λ_=>.fa p 3 λ_ k=>.call 69 [k] λ_=>.BV p 6 λ_ _ m=>.ln [m] λn=>.ig [n,I 0] λo=>.AH o (.BV p 6 λ_ _ s=>.ib [n,I 1] λu=>.op (.Hs 1 false false true) [s,u] λw=>.call 53 [w] λy=>.fa p 6 λ_ z=>.store 1 z y (.call 51 [p] λ_=>.rr [.tuple []])) (.call 51 [p] λ_=>.rr [.tuple []])))
theorem iW:GP cx 65 t65:=λ_=>by kernel_rfl
def t66(p:Aa):IT:=
 .call 52 [p] λa=>.AH a (.fa p 19 λ_ b=>.store 1 b tt (.rr [.tuple []])) (.rr [.tuple []])
theorem aAq:GP cx 66 t66:=λ_=>by kernel_rfl
def t67(p:Aa):IT:=
 .op (.Nr true) [p,.ptr none] λa=>.AH a (.BV p 0 λ_ _ b=>.op (.Br [I 0,S [],.slnil] []) [] λc=>.BV p 0 λ_ _ d=>.ln [d] λe=>.call 153 [b,c,e] λf=>.fa p 0 λ_ h=>.store 1 h f (.rr [.tuple []])) (.rr [.tuple []])
theorem aAr:GP cx 67 t67:=λ_=>by kernel_rfl
def t68(p:Aa):IT:=
 .call 24 [p] λa=>.il [a,I 2] λb=>.AH b (.op (.Br [I 0,I 0,S [],ff] []) [] λc=>.cells 4 c λd=>.rr [a4 d]) (.call 91 [p] λe=>.cells 4 e λf=>.BV p 0 λ_ _ h=>.BV p 0 λ_ _ j=>.ln [j] λk=>.ib [k,I 1] λm=>.op (.Hs 4 false false true) [h,m] λn=>.fa p 0 λ_ o=>.store 1 o n (.cells 4 (a4 f) λs=>.rr [a4 s]))
theorem YS:GP cx 68 t68:=λ_=>by kernel_rfl
def t69(p:Aa):IT:=
 .op (.Nr false) [p,.ptr none] λa=>.AH a (.rr [I 0]) (.BV p 0 λ_ _ b=>.ln [b] λc=>.BV p 0 λ_ d e=>.call 154 [p] λf=>.ld d λh=>.same e h (.ib [f,I 1] λj=>.op (.Kl true) [j,I 0] λk=>.op (.Hs 3 false false true) [e,k] λm=>.fa p 0 λ_ n=>.store 1 n m (.BV p 0 λ_ _ o=>.ln [o] λs=>.ib [c,s] λu=>.rr [u])))
theorem aAs:GP cx 69 t69:=λ_=>by kernel_rfl
def t70(p q:Aa):IT:=
 .cells 1 q λa=>.call 155 [p,.func (.func 156) [] [],.func (.func 157) [] [.CA [g a 0]]] λb=>.rr [b]
theorem aAt:DO cx 70 t70:=λ_ _=>by kernel_rfl
def t71(p:Aa):IT:=
 .fa p 0 λ_ a=>.load (some 13) a λb=>.cells 13 b λc=>.fa p 0 λ_ d=>.fl d 2 λ_ e=>.fa p 0 λ_ f=>.fl f 6 λh j=>.call 159 [e] λk=>.ld h λm=>.same j m (.call 100054 [j] λn=>.cells 1 k λo=>.cells 1 n λs=>.cells 13 (.agg [g c 0,g c 1,g o 0,g c 3,g c 4,g c 5,g s 0,g c 7,g c 8,g c 9,g c 10,g c 11,g c 12]) λu=>.rr [RS u])
theorem yW:GP cx 71 t71:=λ_=>by kernel_rfl
def t74(p:Aa):IT:=
 .fa p 0 λ_ a=>.fl a 0 λ_ b=>.ie [b,I 4] λc=>.AH c (.fa p 0 λ_ d=>.fl d 4 λ_ e=>.ie [e,I 1] λf=>.AH f (.fa p 0 λ_ h=>.fl h 5 λ_ j=>.se [j,S aSI] λk=>.rr [k]) (.rr [ff])) (.rr [ff])
theorem yX:GP cx 74 t74:=λ_=>by kernel_rfl
def t78(p:Aa):IT:=
 .ih [p,I 0] λa=>.AH a (.ik [p,I 7] λb=>.rr [b]) (.rr [ff])
theorem aAu:GP cx 78 t78:=λ_=>by kernel_rfl
def t79(p:Aa):IT:=
 .loop 2 [ff,I 0] (λa=>.ln [p] λb=>.il [g a 1,b] λc=>.AH c (.ea 3 [p,g a 1] λd=>.fl d 0 λ_ e=>.Be 78 [e] λf=>.nt [f] λh=>.AH h (.rr [ff,g a 1]) (.ia [g a 1,I 1] λj=>.rn [g a 0,j])) (.rx 0 [g a 0,g a 1])) (lx 0 (λk=>.rr [tt]) λk=>.rr [g k 0])
theorem aAv:GP cx 79 t79:=λ_=>by kernel_rfl
def t80(p:Aa):IT:=
 .loop 3 [.slnil,I 0] (λa=>.ln [p] λb=>.il [g a 1,b] λc=>.AH c (.loop 7 [ff,I 0] (λd=>.ln [g a 0] λe=>.il [g d 1,e] λf=>.AH f (.ea 3 [g a 0,g d 1] λh=>.fl h 0 λ_ j=>.ea 3 [p,g a 1] λk=>.fl k 0 λ_ m=>.ie [j,m] λn=>.AH n (.ea 3 [g a 0,g d 1] λo=>.fl o 1 λ_ s=>.ea 3 [p,g a 1] λu=>.fl u 1 λ_ w=>.se [s,w] λy=>.AH y (.ia [g d 1,I 1] λz=>.rn [tt,z]) (.ia [g d 1,I 1] λa0=>.rn [g d 0,a0])) (.ia [g d 1,I 1] λa1=>.rn [g d 0,a1])) (.rx 2 [g d 0,g d 1])) (λx a2=>match x with| .normal=>.fail| .exit i=>if i=2 then .nt [g a2 0] λa5=>.AH a5 (.ea 3 [p,g a 1] λa7=>.load (some 3) a7 λa8=>.op (.By 3) [a8] λb0=>.op (.append 3 40) [g a 0,b0] λb1=>.ia [g a 1,I 1] λb2=>.rn [b1,b2]) (.ia [g a 1,I 1] λb3=>.rn [g a 0,b3]) else if i=1 then .ia [g a 1,I 1] λb4=>.rn [g a 0,b4] else .ret (.exit i) [g a 0,g a 1]| .ret=>.rr [g a 0,g a 1])) (.rx 0 [g a 0,g a 1])) (lx 0 (λb5=>.rr [g b5 0]) λb5=>.rr [.slnil])
theorem aAw:GP cx 80 t80:=λ_=>by kernel_rfl
def t84(p q:Aa):IT:=
 .cells 3 q λa=>.op (.Nr false) [p,.ptr none] λb=>.AH b (.rr [.tuple []]) (.iq [g a 0,I 0] λc=>.Dg 100011 (.AH c (.BV p 0 λ_ _ d=>.ln [d] λe=>.ib [e,I 1] λf=>.loop 5 [I 0,I 0,f] (λh=>.call 154 [p] λj=>.ih [g h 2,j] λk=>.AH k (.BV p 0 λ_ _ m=>.ea 3 [m,g h 2] λn=>.load (some 3) n λo=>.call 167 [o,a3 a] λs=>.Dg 100032 (.AH s (.ia [g h 1,I 1] λu=>.rn [g h 2,u]) (.rn [g h 0,g h 1])) (λx w=>match x with| .normal=>.ib [g h 2,I 1] λy=>.rn [g w 0,g w 1,y]| .exit i=>if i=1 then .ib [g h 2,I 1] λz=>.rn [g w 0,g w 1,z] else .ret (.exit i) [g w 0,g w 1,g h 2]| .ret=>.rr [g w 0,g w 1,g h 2])) (.rx 0 [g h 0,g h 1,g h 2])) (λx a0=>match x with| .normal=>.fail| .exit i=>if i=0 then .ih [g a0 1,I 3] λa1=>.Dg 100037 (.AH a1 (.BV p 0 λ_ _ a2=>.call 168 [a2,g a0 0] λa5=>.fa p 0 λ_ a7=>.store 1 a7 a5 (.rn [])) (.rn [])) (λx _=>.ret x []) else .ret (.exit i) []| .ret=>.rr [])) (.rn [])) (nx (λa8=>.BV p 0 λ_ b0 b1=>.BV p 0 λ_ b2 b3=>.ln [b3] λb4=>.call 169 [a3 a] λb5=>.ld b2 λb6=>.same b3 b6 (.ld b0 λb7=>.same b1 b7 (.call 153 [b1,b5,b4] λb8=>.fa p 0 λ_ b9=>.store 1 b9 b8 (.rr [.tuple []])))) λa8=>.rr [.tuple []]))
theorem yY:DO cx 84 t84:=λ_ _=>by kernel_rfl
def t85(p q:Aa):IT:=
 .call 52 [p] λa=>.nt [a] λb=>.AH b (.rr [.tuple [I 0,I 0]]) (.ie [q,I 0] λc=>.Dg 100012 (.AH c (.fa p 2 λ_ d=>.call 24 [d] λe=>.ie [e,I 0] λf=>.AH f (.BV p 1 λ_ _ h=>.rr [q,h,I 0]) (.call 32 [p] λj=>.op (.part 0 none) [j] λk=>.rn [k,I 0,I 0])) (.rn [q,I 0,I 0])) (nx (λm=>.call 86 [p,g m 0] λn=>.cells 13 n λo=>.Dg 200009 (.BV p 15 λ_ _ s=>.AH s (.ie [g o 0,I 4] λu=>.AH u (.op (.Br [I 0,I 0,S [],ff] [(1,1),(2,1)]) [g o 4,g o 5] λw=>.op (.By 1) [S aSO,S aTd,S aTc,S aTe,S [116,114]] λy=>.call 50 [w,y] λz=>.rn [z]) (.rn [ff])) (.rn [ff])) (nx (λa0=>.Dg 100046 (.AH (g a0 0) (.call 170 [p] λa1=>.op (.ext 0) [a1] λa2=>.op (.ext 1) [a1] λa5=>.rn [a2,a5]) (.rn [g m 0,g m 2])) (nx (λa7=>.call 86 [p,g a7 0] λa8=>.cells 13 a8 λb0=>.iq [g b0 11,I 0] λb1=>.AH b1 (.rr [.tuple [g b0 11,I 0]]) (.rr [.tuple [g a7 0,g a7 1]])) λa7=>.rr [.tuple [g a7 0,g a7 1]])) λa0=>.rr [.tuple [g m 0,g m 2]])) λm=>.rr [.tuple [g m 1,g m 2]]))
theorem iX:DO cx 85 t85:=λ_ _=>by kernel_rfl
def t86(p q:Aa):IT:=
 .BV p 0 λ_ _ a=>.call 45 [a,q] λb=>.op (.ext 0) [b] λc=>.op (.ext 1) [b] λ_=>.cells 13 c λd=>.cells 13 (RS d) λe=>.rr [RS e]
theorem yZ:DO cx 86 t86:=λ_ _=>by kernel_rfl
def t87(p q:Aa):IT:=
 .ln [p] λa=>.loop 2 [I 0,I 0] (λb=>.il [g b 1,a] λc=>.AH c (.ea 1 [p,g b 1] λd=>.ld d λe=>.ie [q,e] λf=>.AH f (.rr [g b 1,g b 1]) (.ia [g b 1,I 1] λh=>.rn [g b 0,h])) (.rx 0 [g b 0,g b 1])) (lx 0 (λj=>.rr [I (-1)]) λj=>.rr [g j 0])
theorem zA:DO cx 87 t87:=λ_ _=>by kernel_rfl
def t88(p q:Aa):IT:=
 .op (.conv .u32) [q] λa=>.ik [a,.int .u32 127] λb=>.AH b (.op (.conv .u8) [q] λc=>.op (.By 1) [c] λd=>.Ft 1 1 p d λe=>.rr [e]) (.call 171 [p,q] λf=>.rr [f])
theorem zB:DO cx 88 t88:=λ_ _=>by kernel_rfl
def t89(p q r:Aa):IT:=
 .op (.By 1) [q] λa=>.call 107 [p,a] λb=>.iq [b,I 0] λc=>.AH c (.rr [b]) (.call 43 [p,q] λd=>.fa d 0 λ_ e=>.fl e 0 λ_ f=>.iq [f,I 5] λh=>.AH h (.fa d 0 λ_ j=>.fl j 0 λ_ k=>.iq [k,I 6] λm=>.AH m (.rr [I 9]) (.fa d 0 λ_ n=>.op (.D8 7) [n] λo=>.store 1 o r (.rr [I 0]))) (.fa d 0 λ_ s=>.op (.D8 7) [s] λu=>.store 1 u r (.rr [I 0])))
theorem zC:LW cx 89 t89:=λ_ _ _=>by kernel_rfl
def t90(p q r:Aa):IT:=
 .op (.Br [I 0,I 0,.slnil,I 0,I 0,S [],.slnil,S [],S [],S [],ff,I 0,I 0] [(0,1),(7,1)]) [I 5,r] λa=>.call 44 [p,q,a] λb=>.op (.ext 0) [b] λc=>.op (.ext 1) [b] λd=>.rr [.tuple [c,d]]
theorem zD:LW cx 90 t90:=λ_ _ _=>by kernel_rfl
def t91(p:Aa):IT:=
 .call 24 [p] λa=>.ib [a,I 1] λb=>.call 22 [p,b] λc=>.cells 4 c λd=>.rr [a4 d]
theorem zE:GP cx 91 t91:=λ_=>by kernel_rfl
def t92(p q:Aa):IT:=
 .op (.Nr false) [p,.ptr none] λa=>.AH a (.rr [I (-1)]) (.ie [q,I 0] λb=>.AH b (.rr [I (-1)]) (.BV p 0 λ_ _ c=>.ln [c] λd=>.ib [d,I 1] λe=>.loop 4 [I 0,e] (λf=>.ih [g f 1,I 0] λh=>.AH h (.BV p 0 λ_ _ j=>.ea 3 [j,g f 1] λk=>.fl k 0 λ_ m=>.ie [m,q] λn=>.AH n (.rr [g f 1,g f 1]) (.ib [g f 1,I 1] λo=>.rn [g f 0,o])) (.rx 0 [g f 0,g f 1])) (lx 0 (λs=>.rr [I (-1)]) λs=>.rr [g s 0])))
theorem zF:DO cx 92 t92:=λ_ _=>by kernel_rfl
def vo(p q:Aa):IT:=
 .fa p 3 λ_ a=>.call 172 [a,q] λb=>.il [b,I 0] λc=>.AH c (.call 63 [p,q] λ_=>.rr [ff]) (.fa p 3 λ_ d=>.fl d 0 λ_ e=>.ea 3 [e,b] λf=>.load (some 3) f λh=>.op (.Br [I 0,S [],.slnil,I 0,I 0,I 0,I 0,S [],ff,I 0,I 0,S [],ff,I 0] [(0,3),(3,1),(4,1)]) [h,b,b] λj=>.alloc 14 j λk=>.fa k 0 λ_ m=>.fl m 0 λ_ n=>.fa p 2 λ_ o=>.call 144 [o,n] λs=>.il [s,I 0] λu=>.AH u (.call 173 [k,p,b] λ_=>.rr [ff]) (.ie [s,I 0] λw=>.AH w (.rr [ff]) (.fa p 2 λ_ y=>.call 174 [y,I 1,n] λz=>.nt [z] λa0=>.AH a0 (.rr [ff]) (.fa p 2 λ_ a1=>.call 175 [a1,n] λa2=>.il [a2,I 0] λa5=>.AH a5 (.fa p 2 λ_ a7=>.call 147 [a7,n] λ_=>.call 173 [k,p,b] λ_=>.rr [ff]) (.fa p 2 λ_ a8=>.ib [s,I 1] λb0=>.fa p 2 λ_ b1=>.call 22 [a8,b0] λb2=>.call 22 [b1,a2] λb3=>.fa k 5 λ_ b4=>.store 4 b4 b2 (.fa k 9 λ_ b5=>.store 4 b5 b3 (.fa k 9 λ_ b6=>.fl b6 0 λ_ b7=>.fa k 13 λ_ b8=>.store 1 b8 b7 (.call 176 [p,k,s,a2] λ_=>.fa k 5 λ_ b9=>.fl b9 0 λ_ c0=>.call 85 [p,c0] λc1=>.op (.ext 0) [c1] λc2=>.op (.ext 1) [c1] λc3=>.BV k 13 λ_ _ c4=>.call 47 [p,c4,c2,c3] λ_=>.fa k 0 λ_ c5=>.load (some 3) c5 λc6=>.fa k 9 λ_ c7=>.fl c7 0 λc8 c9=>.call 146 [c6] λd0=>.ld c8 λd1=>.same c9 d1 (.call 46 [p,d0,I 1,c9] λd2=>.cells 4 d2 λd3=>.BV p 0 λ_ _ d4=>.fa k 9 λ_ d5=>.fl d5 0 λ_ d6=>.call 113 [d4,d6] λd7=>.ln [d7] λd8=>.loop 25 [I 0] (λd9=>.il [g d9 0,d8] λe0=>.AH e0 (.ea 1 [d7,g d9 0] λe1=>.ld e1 λe2=>.call 47 [p,e2,g d3 0,I 0] λ_=>.ia [g d9 0,I 1] λe3=>.rn [e3]) (.rx 0 [g d9 0])) (lx 0 (λe4=>.fa k 9 λ_ e5=>.fl e5 0 λ_ e6=>.call 47 [p,g d3 0,e6,I 0] λ_=>.BV k 3 λ_ _ e7=>.call 173 [k,p,e7] λ_=>.fa p 3 λ_ e8=>.fa k 0 λ_ e9=>.fl e9 1 λ_ f0=>.fa k 0 λ_ f1=>.fl f1 2 λ_ f2=>.op (.Br [I 0,S [],.slnil] [(0,1),(1,1),(2,1)]) [g d3 0,f0,f2] λf3=>.BV k 4 λ_ _ f4=>.call 177 [e8,f3,f4] λ_=>.fa p 2 λ_ f5=>.call 178 [f5,n] λ_=>.fa p 2 λ_ f6=>.fa p 2 λ_ f7=>.fa k 9 λ_ f8=>.fl f8 0 λ_ f9=>.call 144 [f7,f9] λh0=>.ia [h0,I 1] λh1=>.call 179 [f6,a4 d3,h1] λ_=>.rr [tt]) λe4=>.rr [ff]))))))))))
theorem Qc:DO cx 93 vo:=λ_ _=>by kernel_rfl
def t94(p q:Aa):IT:=
 .op (.Nr true) [p,.ptr none] λa=>.AH a (.ih [q,I 1] λb=>.AH b (.BV p 0 λ_ _ c=>.ln [c] λd=>.ik [q,d] λe=>.rr [e]) (.rr [ff])) (.rr [ff])
theorem zG:DO cx 94 t94:=λ_ _=>by kernel_rfl
def t97(p q:Aa):IT:=
 .cells 13 q λa=>.BV p 0 λ_ _ b=>.op (.By 13) [RS a] λc=>.Ft 13 168 b c λd=>.fa p 0 λ_ e=>.store 1 e d (.BV p 1 λ_ _ f=>.op (.By 1) [I 0] λh=>.Ft 1 8 f h λj=>.fa p 1 λ_ k=>.store 1 k j (.BV p 0 λ_ _ m=>.ln [m] λn=>.ib [n,I 1] λo=>.rr [o]))
theorem aAx:DO cx 97 t97:=λ_ _=>by kernel_rfl
def t98(p q r u w:Aa):IT:=
 .call 102 [p,q] λa=>.iq [a,I 0] λb=>.AH b (.rr [.tuple [I 0,a]]) (.Be 78 [r] λc=>.nt [c] λd=>.AH d (.rr [.tuple [I 0,I 2]]) (.call 79 [w] λe=>.nt [e] λf=>.AH f (.rr [.tuple [I 0,I 2]]) (.call 80 [w] λh=>.op (.Br [I 0,I 0,.slnil,I 0,I 0,S [],.slnil,S [],S [],S [],ff,I 0,I 0] [(0,1),(3,1),(4,1),(5,1),(6,1)]) [I 4,q,r,u,h] λj=>.call 97 [p,j] λk=>.BV p 0 λ_ _ m=>.ea 13 [m,k] λn=>.load (some 13) n λo=>.call 163 [o] λs=>.AH s (.call 184 [p,q] λy=>.op (.Br [I 0,I 0,.slnil,I 0,I 0,S [],.slnil,S [],S [],S [],ff,I 0,I 0] [(0,1),(3,1),(12,1)]) [I 2,y,k] λz=>.call 97 [p,z] λa0=>.BV p 0 λ_ _ a1=>.ea 13 [a1,k] λa2=>.op (.D8 11) [a2] λa5=>.store 1 a5 a0 (.rr [.tuple [k,I 0]])) (.rr [.tuple [k,I 0]]))))
theorem zH:Tq5 cx 98 t98:=λ_ _ _ _ _=>by kernel_rfl
def t99(p q r u:Aa):IT:=
 .call 185 [p,q] λa=>.ie [a,I 1] λb=>.AH b (.call 185 [p,r] λc=>.ie [c,I 4] λd=>.AH d (.BV p 0 λ_ _ e=>.call 186 [e,q] λf=>.loop 3 [I 0] (λh=>.ln [f] λj=>.il [g h 0,j] λk=>.AH k (.ea 1 [f,g h 0] λm=>.ld m λn=>.call 185 [p,n] λo=>.ie [o,I 4] λs=>.AH s (.rr [g h 0]) (.ia [g h 0,I 1] λw=>.rn [w])) (.rx 0 [g h 0])) (lx 0 (λy=>.BV p 0 λ_ _ z=>.call 187 [z,q,r,u] λ_=>.rr [.tuple []]) λy=>.rr [.tuple []])) (.BV p 0 λ_ _ a0=>.call 187 [a0,q,r,u] λ_=>.rr [.tuple []])) (.BV p 0 λ_ _ a1=>.call 187 [a1,q,r,u] λ_=>.rr [.tuple []])
theorem iY:df cx 99 t99:=λ_ _ _ _=>by kernel_rfl
def aEG(p q r:Aa):IT:=
 .ie [p,I 2] λa=>.AH a (.Be 188 [S aSN,q] λb=>.rr [b]) (.iq [p,I 3] λc=>.AH c (.rr [ff]) (.op (.str .neq) [q,S aSL] λd=>.AH d (.rr [ff]) (.loop 6 [ff,I 0] (λe=>.ln [r] λf=>.il [g e 1,f] λh=>.AH h (.ea 3 [r,g e 1] λj=>.fl j 0 λ_ k=>.ie [k,I 0] λm=>.AH m (.ea 3 [r,g e 1] λn=>.fl n 1 λ_ o=>.se [o,S aTj] λs=>.AH s (.ea 3 [r,g e 1] λu=>.fl u 2 λ_ w=>.Be 189 [w] λy=>.se [y,S aTh] λz=>.AH z (.rr [tt,g e 1]) (.se [y,S aSQ] λa0=>.rr [a0,g e 1])) (.ia [g e 1,I 1] λa1=>.rn [g e 0,a1])) (.ia [g e 1,I 1] λa2=>.rn [g e 0,a2])) (.rx 0 [g e 0,g e 1])) (lx 0 (λa5=>.rr [ff]) λa5=>.rr [g a5 0]))))
theorem jl:LW cx 100 aEG:=λ_ _ _=>by kernel_rfl
def aEH(p:Aa):IT:=
 .BV p 2 λ_ _ a=>.ln [a] λb=>.ib [b,I 1] λc=>.loop 1 [c] (λd=>.ih [g d 0,I 0] λe=>.AH e (.BV p 2 λ_ _ f=>.ea 4 [f,g d 0] λh=>.load (some 4) h λj=>.ie [g d 0,I 0] λk=>.cells 4 j λm=>.AH k (.BV p 9 λ_ _ n=>.AH n (.fa p 10 λ_ o=>.load (some 4) o λs=>.cells 4 s λu=>.call 190 [p,a4 u,g d 0,k] λw=>.op (.ext 0) [w] λy=>.op (.ext 1) [w] λz=>.AH z (.fa p 4 λ_ a0=>.store 1 a0 y (.rr [g d 0])) (.ib [g d 0,I 1] λa1=>.rn [a1])) (.call 190 [p,a4 m,g d 0,k] λa2=>.op (.ext 0) [a2] λa5=>.op (.ext 1) [a2] λa7=>.AH a7 (.fa p 4 λ_ a8=>.store 1 a8 a5 (.rr [g d 0])) (.ib [g d 0,I 1] λb0=>.rn [b0]))) (.call 190 [p,a4 m,g d 0,k] λb1=>.op (.ext 0) [b1] λb2=>.op (.ext 1) [b1] λb3=>.AH b3 (.fa p 4 λ_ b4=>.store 1 b4 b2 (.rr [g d 0])) (.ib [g d 0,I 1] λb5=>.rn [b5]))) (.rx 0 [g d 0])) (lx 0 (λb6=>.fa p 4 λ_ b7=>.store 1 b7 (I 7) (.rr [.tuple []])) λb6=>.rr [.tuple []])
theorem jm:GP cx 101 aEH:=λ_=>by kernel_rfl
def aEI(p q:Aa):IT:=
 .call 164 [p,q] λa=>.nt [a] λb=>.AH b (.rr [I 3]) (.BV p 0 λ_ _ c=>.ea 13 [c,q] λd=>.fl d 0 λ_ e=>.iq [e,I 1] λf=>.AH f (.rr [I 9]) (.rr [I 0]))
theorem jn:DO cx 102 aEI:=λ_ _=>by kernel_rfl
def aEJ(p:Aa):IT:=
 .BV p 0 λ_ _ a=>.ln [a] λb=>.ib [b,I 1] λc=>.rr [c]
theorem jo:GP cx 103 aEJ:=λ_=>by kernel_rfl
def aEK(p q:Aa):IT:=
 .ln [p] λa=>.ln [q] λb=>.iq [a,b] λc=>.AH c (.rr [ff]) (.loop 4 [ff,I 0] (λd=>.ln [p] λe=>.il [g d 1,e] λf=>.AH f (.ea 13 [p,g d 1] λh=>.load (some 13) h λj=>.ea 13 [q,g d 1] λk=>.load (some 13) k λm=>.call 191 [j,m] λn=>.nt [n] λo=>.AH o (.rr [ff,g d 1]) (.ia [g d 1,I 1] λs=>.rn [g d 0,s])) (.rx 0 [g d 0,g d 1])) (lx 0 (λu=>.rr [tt]) λu=>.rr [g u 0]))
theorem jq:DO cx 104 aEK:=λ_ _=>by kernel_rfl
def aEL(p:Aa):IT:=
 .loop 3 [.slnil,I 1] (λa=>.BV p 0 λ_ _ b=>.ln [b] λc=>.il [g a 1,c] λd=>.AH d (.BV p 0 λ_ _ e=>.ea 13 [e,g a 1] λf=>.load (some 13) f λh=>.call 192 [h] λj=>.op (.By 13) [j] λk=>.op (.append 13 168) [g a 0,k] λm=>.ia [g a 1,I 1] λn=>.rn [m,n]) (.rx 0 [g a 0,g a 1])) (lx 0 (λo=>.rr [g o 0]) λo=>.rr [.slnil])
theorem jr:GP cx 105 aEL:=λ_=>by kernel_rfl
def aAy(p q:Aa):IT:=
 .op (.By 1) [q] λa=>.call 107 [p,a] λb=>.iq [b,I 0] λc=>.AH c (.rr [b]) (.call 43 [p,q] λd=>.fa d 0 λ_ e=>.fl e 0 λ_ f=>.iq [f,I 1] λh=>.AH h (.rr [I 9]) (.rr [I 0]))
theorem lZ:DO cx 106 aAy:=λ_ _=>by kernel_rfl
def js(p q:Aa):IT:=
 .op (.Nr false) [p,.ptr none] λa=>.AH a (.rr [I 1]) (.ln [q] λb=>.loop 4 [I 0,I 0] (λc=>.il [g c 1,b] λd=>.AH d (.ea 1 [q,g c 1] λe=>.ld e λf=>.call 94 [p,f] λh=>.nt [h] λj=>.AH j (.rr [I 3,g c 1]) (.ia [g c 1,I 1] λk=>.rn [g c 0,k])) (.rx 0 [g c 0,g c 1])) (lx 0 (λm=>.rr [I 0]) λm=>.rr [g m 0]))
theorem YT:DO cx 107 js:=λ_ _=>by kernel_rfl
def aAz(p q:Aa):IT:=
 .OY λa=>.op (.Br [I 0,S [],S []] [(0,1),(1,1)]) [I 4,S aTo] λb=>.JY a (S aSX) b (.op (.Br [I 0,S [],S []] [(0,1),(1,1)]) [I 4,S aTn] λc=>.JY a (S aSW) c (.op (.Br [I 0,S [],S []] [(0,1),(1,1)]) [I 4,S aTv] λd=>.JY a (S aS5) d (.op (.Br [I 0,S [],S []] [(0,1),(1,1)]) [I 4,S aTw] λe=>.JY a (S aS6) e (.op (.Br [I 0,S [],S []] [(0,1),(1,1)]) [I 4,S aTx] λf=>.JY a (S aS7) f (.op (.Br [I 0,S [],S []] [(0,1),(1,1)]) [I 4,S aTf] λh=>.JY a (S aS0) h (.op (.Br [I 0,S [],S []] [(0,1),(1,1)]) [I 4,S aTy] λj=>.JY a (S aS8) j (.op (.Br [I 0,S [],S []] [(0,1),(1,1)]) [I 5,S [108,97,110,103]] λk=>.JY a (S aTa) k (.op (.Br [I 0,S [],S []] [(0,1),(1,1)]) [I 5,S aTu] λm=>.JY a (S aS1) m (.op (.Br [I 0,S [],S []] [(0,1),(1,1)]) [I 6,S aS2] λn=>.JY a (S aS2) n (.op (.Br [I 0,S [],S []] [(0,1),(1,1)]) [I 6,S aTi] λo=>.JY a (S aSS) o (.ln [q] λs=>.loop 4 [.slnil,I 0] (λu=>.il [g u 1,s] λw=>.AH w (.ea 3 [q,g u 1] λy=>.load (some 3) y λz=>.cells 3 z λa0=>.op (.Br [I 0,S [],S []] [(1,1),(2,1)]) [g a0 1,g a0 2] λa1=>.cells 3 a1 λa2=>.ie [p,I 2] λa5=>.Dg 100036 (.AH a5 (.Be 193 [g a0 1] λa7=>.cells 1 a7 λa8=>.rn [.agg [g a2 0,g a8 0,g a2 2]]) (.Dg 200009 (.ie [p,I 3] λb0=>.AH b0 (.se [g a0 1,S aS9] λb1=>.rn [b1]) (.rn [ff])) (λx b2=>match x with| .normal=>.Dg 100043 (.AH (g b2 0) (.cells 1 (S aTb) λb3=>.rn [.agg [g a2 0,g b3 0,g a2 2]]) (.rn [a3 a2])) (λx b4=>.cells 3 (g b4 0) λb5=>.ret x [a3 b5])| .exit i=>.ret (.exit i) [a3 a2]| .ret=>.rr [a3 a2]))) (λx b6=>.cells 3 (g b6 0) λb7=>match x with| .normal=>.L5 (.agg [I 0,S [],S []]) true a (g b7 1) λb8=>.op (.ext 0) [b8] λb9=>.op (.ext 1) [b8] λc0=>.cells 3 b9 λc1=>.Dg 200012 (.AH c0 (.ie [p,I 2] λc2=>.AH c2 (.rn [tt]) (.ie [p,I 3] λc3=>.rn [c3])) (.rn [ff])) (λx c4=>match x with| .normal=>.Dg 100067 (.AH (g c4 0) (.cells 1 (g c1 0) λc5=>.cells 1 (g c1 1) λc6=>.rn [.agg [g c5 0,g c6 0,g b7 2]]) (.rn [a3 b7])) (λx c7=>.cells 3 (g c7 0) λc8=>match x with| .normal=>.op (.By 3) [a3 c8] λc9=>.op (.append 3 40) [g u 0,c9] λd0=>.ia [g u 1,I 1] λd1=>.rn [d0,d1]| .exit i=>if i=1 then .ia [g u 1,I 1] λd2=>.rn [g u 0,d2] else .ret (.exit i) [g u 0,g u 1]| .ret=>.rr [g u 0,g u 1])| .exit i=>if i=1 then .ia [g u 1,I 1] λd3=>.rn [g u 0,d3] else .ret (.exit i) [g u 0,g u 1]| .ret=>.rr [g u 0,g u 1])| .exit i=>if i=2 then .L5 (.agg [I 0,S [],S []]) true a (g b7 1) λd4=>.op (.ext 0) [d4] λd5=>.op (.ext 1) [d4] λd6=>.cells 3 d5 λd7=>.Dg 200012 (.AH d6 (.ie [p,I 2] λd8=>.AH d8 (.rn [tt]) (.ie [p,I 3] λd9=>.rn [d9])) (.rn [ff])) (λx e0=>match x with| .normal=>.Dg 100067 (.AH (g e0 0) (.cells 1 (g d7 0) λe1=>.cells 1 (g d7 1) λe2=>.rn [.agg [g e1 0,g e2 0,g b7 2]]) (.rn [a3 b7])) (λx e3=>.cells 3 (g e3 0) λe4=>match x with| .normal=>.op (.By 3) [a3 e4] λe5=>.op (.append 3 40) [g u 0,e5] λe6=>.ia [g u 1,I 1] λe7=>.rn [e6,e7]| .exit i=>if i=1 then .ia [g u 1,I 1] λe8=>.rn [g u 0,e8] else .ret (.exit i) [g u 0,g u 1]| .ret=>.rr [g u 0,g u 1])| .exit i=>if i=1 then .ia [g u 1,I 1] λe9=>.rn [g u 0,e9] else .ret (.exit i) [g u 0,g u 1]| .ret=>.rr [g u 0,g u 1]) else if i=1 then .ia [g u 1,I 1] λf0=>.rn [g u 0,f0] else .ret (.exit i) [g u 0,g u 1]| .ret=>.rr [g u 0,g u 1])) (.rx 0 [g u 0,g u 1])) (lx 0 (λf1=>.rr [g f1 0]) λf1=>.rr [.slnil]))))))))))))
theorem l8:DO cx 108 aAz:=λ_ _=>by kernel_rfl
def t109(p:Aa):IT:=
 .Be 194 [p,S aSF] λa=>.rr [a]
theorem mA:GP cx 109 t109:=λ_=>by kernel_rfl
def jt(p q r u w:Aa):IT:=
 .call 106 [p,q] λa=>.iq [a,I 0] λb=>.AH b (.rr [.tuple [I 0,a]]) (.call 161 [w] λc=>.op (.ext 0) [c] λd=>.op (.ext 1) [c] λe=>.nt [e] λf=>.AH f (.rr [.tuple [I 0,I 2]]) (.op (.By 1) [r] λh=>.call 160 [h] λj=>.nt [j] λk=>.AH k (.rr [.tuple [I 0,I 2]]) (.op (.Br [I 0,I 0,.slnil,I 0,I 0,S [],.slnil,S [],S [],S [],ff,I 0,I 0] [(0,1),(3,1),(4,1),(5,1),(6,1)]) [I 4,q,r,u,d] λm=>.call 42 [p,m] λn=>.call 43 [p,n] λo=>.call 74 [o] λs=>.AH s (.call 195 [p,q] λy=>.op (.Br [I 0,I 0,.slnil,I 0,I 0,S [],.slnil,S [],S [],S [],ff,I 0,I 0] [(0,1),(12,1),(3,1)]) [I 2,n,y] λz=>.call 42 [p,z] λa0=>.call 43 [p,n] λa1=>.fa a1 0 λ_ a2=>.op (.D8 11) [a2] λa5=>.store 1 a5 a0 (.rr [.tuple [n,I 0]])) (.rr [.tuple [n,I 0]]))))
theorem YU:Tq5 cx 110 jt:=λ_ _ _ _ _=>by kernel_rfl
def ju(p q:Aa):IT:=
 .call 86 [p,q] λa=>.cells 13 a λb=>.iq [g b 11,I 0] λc=>.AH c (.call 86 [p,g b 11] λd=>.cells 13 d λe=>.iq [g e 3,I 0] λf=>.AH f (.rr [g e 3]) (.BV p 1 λ_ _ h=>.rr [h])) (.iq [g b 3,I 0] λj=>.AH j (.rr [g b 3]) (.BV p 1 λ_ _ k=>.rr [k]))
theorem YV:DO cx 111 ju:=λ_ _=>by kernel_rfl
def aAA(p q:Aa):IT:=
 .call 196 [p,q] λa=>.ih [a,I 0] λb=>.rr [b]
theorem mB:DO cx 112 aAA:=λ_ _=>by kernel_rfl
def jv(p q:Aa):IT:=
 .call 94 [p,q] λa=>.nt [a] λb=>.AH b (.rr [.slnil]) (.call 43 [p,q] λc=>.fa c 0 λ_ d=>.fl d 2 λ_ e=>.call 159 [e] λf=>.rr [f])
theorem YW:DO cx 113 jv:=λ_ _=>by kernel_rfl
def aAB(p q:Aa):IT:=
 .ld q λa=>.call 86 [a,p] λb=>.op (.part 0 none) [b] λc=>.ie [c,I 4] λd=>.rr [d]
theorem mC:DO cx 114 aAB:=λ_ _=>by kernel_rfl
def YX(p q r u:Aa):IT:=
 .op (.By 1) [q,r] λa=>.call 107 [p,a] λb=>.iq [b,I 0] λc=>.AH c (.rr [b]) (.Dg 200004 (.iq [u,I 0] λd=>.AH d (.call 94 [p,u] λe=>.nt [e] λf=>.rn [f]) (.rn [ff])) (nx (λh=>.AH (g h 0) (.rr [I 3]) (.call 43 [p,q] λj=>.call 43 [p,r] λk=>.Dg 200007 (.fa j 0 λ_ m=>.fl m 0 λ_ n=>.iq [n,I 1] λo=>.AH o (.fa j 0 λ_ s=>.fl s 0 λ_ w=>.iq [w,I 2] λy=>.AH y (.fa j 0 λ_ z=>.fl z 0 λ_ a0=>.iq [a0,I 4] λa1=>.rn [a1]) (.rn [ff])) (.rn [ff])) (λx a2=>match x with| .normal=>.AH (g a2 0) (.rr [I 4]) (.fa k 0 λ_ a5=>.fl a5 0 λ_ a7=>.ie [a7,I 1] λa8=>.AH a8 (.rr [I 4]) (.fa k 0 λ_ b0=>.fl b0 0 λ_ b1=>.ie [b1,I 2] λb2=>.AH b2 (.rr [I 4]) (.call 197 [p,r,q] λb3=>.AH b3 (.rr [I 4]) (.Dg 200012 (.iq [u,I 0] λb4=>.AH b4 (.ie [u,r] λb5=>.AH b5 (.rn [tt]) (.call 43 [p,u] λb6=>.fa b6 0 λ_ b7=>.fl b7 1 λ_ b8=>.iq [b8,q] λb9=>.rn [b9])) (.rn [ff])) (λx c0=>match x with| .normal=>.AH (g c0 0) (.rr [I 5]) (.call 198 [p,r] λ_=>.fa j 0 λ_ c1=>.fl c1 2 λ_ c2=>.ln [c2] λc3=>.iq [u,I 0] λc4=>.Dg 100103 (.AH c4 (.fa j 0 λ_ c5=>.fl c5 2 λ_ c7=>.call 87 [c7,u] λc8=>.rn [c8]) (.rn [c3])) (nx (λc9=>.fa j 0 λ_ d0=>.fl d0 2 λ_ d1=>.op (.By 1) [r] λd2=>.mem .p8 [d1,g c9 0,d2] λd3=>.fa j 0 λ_ d4=>.op (.D8 2) [d4] λd5=>.store 1 d5 d3 (.fa k 0 λ_ d6=>.op (.D8 1) [d6] λd7=>.store 1 d7 q (.rr [I 0]))) λc9=>.rr [I 0]))| .exit i=>if i=0 then .call 198 [p,r] λ_=>.fa j 0 λ_ d8=>.fl d8 2 λ_ d9=>.ln [d9] λe0=>.iq [u,I 0] λe1=>.Dg 100103 (.AH e1 (.fa j 0 λ_ e2=>.fl e2 2 λ_ e3=>.call 87 [e3,u] λe4=>.rn [e4]) (.rn [e0])) (nx (λe5=>.fa j 0 λ_ e6=>.fl e6 2 λ_ e7=>.op (.By 1) [r] λe8=>.mem .p8 [e7,g e5 0,e8] λe9=>.fa j 0 λ_ f0=>.op (.D8 2) [f0] λf1=>.store 1 f1 e9 (.fa k 0 λ_ f2=>.op (.D8 1) [f2] λf3=>.store 1 f3 q (.rr [I 0]))) λe5=>.rr [I 0]) else .fail| .ret=>.rr [I 0])))))| .exit i=>if i=0 then .call 198 [p,r] λ_=>.fa j 0 λ_ f4=>.fl f4 2 λ_ f5=>.ln [f5] λf6=>.iq [u,I 0] λf7=>.Dg 100103 (.AH f7 (.fa j 0 λ_ f8=>.fl f8 2 λ_ f9=>.call 87 [f9,u] λh0=>.rn [h0]) (.rn [f6])) (nx (λh1=>.fa j 0 λ_ h2=>.fl h2 2 λ_ h3=>.op (.By 1) [r] λh4=>.mem .p8 [h3,g h1 0,h4] λh5=>.fa j 0 λ_ h6=>.op (.D8 2) [h6] λh7=>.store 1 h7 h5 (.fa k 0 λ_ h8=>.op (.D8 1) [h8] λh9=>.store 1 h9 q (.rr [I 0]))) λh1=>.rr [I 0]) else .fail| .ret=>.rr [I 0]))) λh=>.rr [I 0]))
theorem LG:df cx 115 YX:=λ_ _ _ _=>by kernel_rfl
def aAC(p q r:Aa):IT:=
 .cells 4 q λa=>.op (.Hs 4 false false true) [p,r] λb=>.op (.append 4 40) [.slnil,b] λc=>.op (.By 4) [a4 a] λd=>.op (.append 4 40) [c,d] λe=>.op (.Hs 4 false true false) [p,r] λf=>.op (.append 4 40) [e,f] λh=>.rr [h]
theorem mD:LW cx 116 aAC:=λ_ _ _=>by kernel_rfl
def aAD(p q:Aa):IT:=
 .ie [p,I 3] λa=>.AH a (.se [q,S aSL] λb=>.AH b (.rr [tt]) (.Be 200 [p,q] λc=>.rr [c])) (.ie [p,I 2] λd=>.AH d (.se [q,S aTr] λe=>.AH e (.rr [tt]) (.se [q,S aSV] λf=>.AH f (.rr [tt]) (.se [q,S aTf] λh=>.rr [h]))) (.ie [p,I 1] λj=>.AH j (swv q (.rr [tt]) (.rr [ff]) Mj) (.rr [ff])))
theorem mE:DO cx 117 aAD:=λ_ _=>by kernel_rfl
def zI(p q:Aa):IT:=
 .ln [p] λa=>.loop 2 [I 0,I 0] (λb=>.il [g b 1,a] λc=>.AH c (.ea 3 [p,g b 1] λd=>.load (some 3) d λe=>.FH q [e] λf=>.AH f (.rr [g b 1,g b 1]) (.ia [g b 1,I 1] λh=>.rn [g b 0,h])) (.rx 0 [g b 0,g b 1])) (lx 0 (λj=>.rr [I (-1)]) λj=>.rr [g j 0])
theorem T1:DO cx 118 zI:=λ_ _=>by kernel_rfl
def aAE(p:Aa):IT:=
 .cells 3 p λa=>.ie [g a 0,I 0] λb=>.AH b (.se [g a 1,S aTj] λc=>.rr [c]) (.rr [ff])
theorem mF:GP cx 119 aAE:=λ_=>by kernel_rfl
def aAF(p q:Aa):IT:=
 .Be 201 [p] λa=>.Be 201 [q] λb=>.se [a,b] λc=>.rr [c]
theorem mG:DO cx 120 aAF:=λ_ _=>by kernel_rfl
def aAG(p q:Aa):IT:=
 .call 202 [p,q] λa=>.ih [a,I 0] λb=>.rr [b]
theorem mH:DO cx 121 aAG:=λ_ _=>by kernel_rfl
def aAH(p q r:Aa):IT:=
 .cells 4 q λa=>.call 203 [] λb=>.ln [b] λc=>.loop 2 [I 0,ff,I 0] (λd=>.il [g d 2,c] λe=>.AH e (.ea 2 [b,g d 2] λf=>.load (some 2) f λh=>.cells 2 h λj=>.op (.By 1) [g j 0] λk=>.call 50 [a4 a,k] λm=>.AH m (.rr [g j 1,tt,g d 2]) (.ia [g d 2,I 1] λn=>.rn [g d 0,g d 1,n])) (.rx 0 [g d 0,g d 1,g d 2])) (lx 0 (λo=>.op (.By 1) [S aTl] λs=>.call 50 [a4 a,s] λu=>.AH u (.call 204 [p,r] λw=>.rr [.tuple [w,tt]]) (.Dg 200009 (.op (.By 1) [S [116,100],S [116,104]] λy=>.call 50 [a4 a,y] λz=>.AH z (.ig [r,I 0] λa0=>.rn [a0]) (.rn [ff])) (λx a1=>match x with| .normal=>.AH (g a1 0) (.rr [.tuple [I 15,tt]]) (.op (.By 1) [S aSI] λa2=>.call 50 [a4 a,a2] λa5=>.AH a5 (.BV p 6 λ_ _ a7=>.ln [a7] λa8=>.ig [a8,I 0] λb0=>.AH b0 (.BV p 6 λ_ _ b1=>.ib [a8,I 1] λb2=>.ea 1 [b1,b2] λb3=>.ld b3 λb4=>.rr [.tuple [b4,tt]]) (.rr [.tuple [I 7,tt]])) (.Dg 200016 (.op (.By 1) [S aTs] λb5=>.call 50 [a4 a,b5] λb6=>.AH b6 (.ig [r,I 0] λb7=>.rn [b7]) (.rn [ff])) (λx b8=>match x with| .normal=>.AH (g b8 0) (.rr [.tuple [I 4,tt]]) (.op (.By 1) [S aSR] λb9=>.call 50 [a4 a,b9] λc1=>.AH c1 (.BV p 7 λ_ _ c2=>.ie [c2,I 0] λc4=>.AH c4 (.rr [.tuple [I 3,tt]]) (.rr [.tuple [I 6,tt]])) (.ie [r,I 0] λc5=>.rr [.tuple [I 7,c5]]))| .exit i=>if i=2 then .ie [r,I 0] λc6=>.rr [.tuple [I 7,c6]] else .fail| .ret=>.rr [.tuple [g o 0,g o 1]])))| .exit i=>if i=2 then .ie [r,I 0] λc8=>.rr [.tuple [I 7,c8]] else .fail| .ret=>.rr [.tuple [g o 0,g o 1]]))) λo=>.rr [.tuple [g o 0,g o 1]])
theorem mI:LW cx 122 aAH:=λ_ _ _=>by kernel_rfl
def aEM(p q:Aa):IT:=
 .cells 12 q λa=>.call 124 [p,tW a,I 1] λb=>.rr [b]
theorem jw:DO cx 123 aEM:=λ_ _=>by kernel_rfl
def aAI(p q r:Aa):IT:=
 .cells 12 q λa=>.Be 78 [r] λb=>.nt [b] λc=>.AH c (.rr [I 0]) (.call 205 [p,I 0] λd=>.op (.ext 0) [d] λe=>.op (.ext 1) [d] λf=>.call 140 [p,tW a,r,e] λh=>.cells 4 h λj=>.call 99 [p,e,g j 0,f] λ_=>.BV p 2 λ_ _ k=>.op (.append 4 40) [.slnil,k] λm=>.op (.By 4) [a4 j] λn=>.op (.append 4 40) [m,n] λo=>.fa p 2 λ_ s=>.store 1 s o (.rr [g j 0]))
theorem mJ:LW cx 124 aAI:=λ_ _ _=>by kernel_rfl
def aEN(p q:Aa):IT:=
 .cells 12 q λa=>.call 123 [p,tW a] λb=>.BV p 3 λ_ _ c=>.op (.Br [I 0,S [],.slnil] [(0,1),(1,1),(2,1)]) [b,g a 1,g a 8] λd=>.call 206 [c,d] λe=>.fa p 3 λ_ f=>.store 1 f e (.rr [b])
theorem jx:DO cx 125 aEN:=λ_ _=>by kernel_rfl
def zJ(p q:Aa):IT:=
 .call 205 [p,I 0] λa=>.op (.ext 0) [a] λb=>.op (.ext 1) [a] λc=>.call 185 [p,b] λd=>.Dg 200002 (.iq [d,I 4] λe=>.AH e (.iq [d,I 2] λf=>.rn [f]) (.rn [ff])) (nx (λh=>.AH (g h 0) (.rr [.tuple []]) (.Be 207 [q] λj=>.nt [j] λk=>.Dg 100028 (.AH k (.rn [.int .i32 65533]) (.rn [q])) (nx (λm=>.call 208 [g m 0] λn=>.KU n λo=>.op .S7 [o] λs=>.BV p 0 λ_ _ u=>.call 186 [u,b] λw=>.ln [w] λy=>.iq [c,I 0] λz=>.Dg 100041 (.AH z (.call 165 [w,c] λa0=>.rn [a0]) (.rn [y])) (nx (λa1=>.Dg 200010 (.ig [g a1 0,I 0] λa2=>.AH a2 (.ib [g a1 0,I 1] λa5=>.ea 1 [w,a5] λa7=>.ld a7 λa8=>.call 185 [p,a8] λb0=>.ie [b0,I 5] λb1=>.rn [b1]) (.rn [ff])) (nx (λb2=>.AH (g b2 0) (.BV p 0 λ_ _ b3=>.BV b3 0 λ_ _ b4=>.ib [g a1 0,I 1] λb5=>.ea 1 [w,b5] λb6=>.ld b6 λb7=>.ea 13 [b4,b7] λb8=>.fl b8 7 λ_ b9=>.op (.str .add) [b9,s] λc0=>.ea 13 [b4,b7] λc1=>.op (.D8 7) [c1] λc2=>.store 1 c2 c0 (.rr [.tuple []])) (.BV p 0 λ_ c3 c4=>.op (.Br [I 0,I 0,.slnil,I 0,I 0,S [],.slnil,S [],S [],S [],ff,I 0,I 0] [(0,1),(7,1)]) [I 5,s] λc5=>.call 210 [p,b] λc7=>.ld c3 λc8=>.same c4 c8 (.call 209 [c4,c7,c5] λd0=>.op (.ext 0) [d0] λd1=>.op (.ext 1) [d0] λ_=>.call 99 [p,b,d1,c] λ_=>.rr [.tuple []]))) λb2=>.rr [.tuple []])) λa1=>.rr [.tuple []])) λm=>.rr [.tuple []]))) λh=>.rr [.tuple []])
theorem T2:DO cx 126 zJ:=λ_ _=>by kernel_rfl
def t127(p q r:Aa):IT:=
 .ie [r,I 0] λa=>.Dg 100011 (.AH a (.call 205 [p,I 0] λb=>.op (.ext 0) [b] λc=>.op (.ext 1) [b] λd=>.rn [c,d]) (.rn [r,I 0])) (nx (λe=>.call 185 [p,g e 0] λf=>.Dg 200004 (.iq [f,I 1] λh=>.AH h (.iq [f,I 2] λj=>.AH j (.iq [f,I 4] λk=>.rn [k]) (.rn [ff])) (.rn [ff])) (nx (λm=>.AH (g m 0) (.rr [.tuple []]) (.BV p 0 λ_ n o=>.op (.Br [I 0,I 0,.slnil,I 0,I 0,S [],.slnil,S [],S [],S [],ff,I 0,I 0] [(0,1),(7,1)]) [I 6,q] λs=>.call 210 [p,g e 0] λu=>.ld n λw=>.same o w (.call 209 [o,u,s] λy=>.op (.ext 0) [y] λz=>.op (.ext 1) [y] λ_=>.call 99 [p,g e 0,z,g e 1] λ_=>.rr [.tuple []]))) λm=>.rr [.tuple []])) λe=>.rr [.tuple []])
theorem mK:LW cx 127 t127:=λ_ _ _=>by kernel_rfl
def aEO(p q r:Aa):IT:=
 .cells 12 q λa=>.call 123 [p,tW a] λ_=>.fa p 18 λ_ b=>.store 1 b r (.BV p 4 λ_ _ c=>.fa p 5 λ_ d=>.store 1 d c (.fa p 4 λ_ e=>.store 1 e (I 8) (.rr [.tuple []])))
theorem jy:LW cx 128 aEO:=λ_ _ _=>by kernel_rfl
def aAJ(p:Aa):IT:=
 .BV p 2 λ_ _ a=>.op (.By 1) [S [112]] λb=>.call 211 [a,I 3,b] λc=>.AH c (.BV p 2 λ_ _ d=>.call 212 [d,S [112],ff] λe=>.fa p 2 λ_ f=>.store 1 f e (.BV p 2 λ_ _ h=>.op (.By 1) [S [112]] λj=>.call 139 [h,j] λk=>.fa p 2 λ_ m=>.store 1 m k (.rr [.tuple []]))) (.rr [.tuple []])
theorem mL:GP cx 129 aAJ:=λ_=>by kernel_rfl
def aEP(p:Aa):IT:=
 .BV p 3 λ_ _ a=>.ln [a] λb=>.loop 1 [b] (λc=>.ig [g c 0,I 0] λd=>.AH d (.BV p 3 λ_ _ e=>.ib [g c 0,I 1] λf=>.ea 3 [e,f] λh=>.load (some 3) h λj=>.call 213 [p,j] λk=>.nt [k] λm=>.AH m (.ib [g c 0,I 1] λn=>.rn [n]) (.rx 0 [g c 0])) (.rx 0 [g c 0])) (lx 0 (λo=>.BV p 3 λ_ _ s=>.Ht 3 48 .slnil s λu=>.loop 4 [g o 0] (λw=>.ln [u] λy=>.il [g w 0,y] λz=>.AH z (.ea 3 [u,g w 0] λa0=>.fl a0 1 λ_ a1=>.ea 3 [u,g w 0] λa2=>.fl a2 2 λ_ a5=>.op (.Br [I 0,S [],ff,S [],ff,S [],ff,ff,.slnil,ff,S [],.int .i32 0] [(0,1),(1,1),(8,1)]) [I 2,a1,a5] λa7=>.call 123 [p,a7] λa8=>.ea 3 [u,g w 0] λb0=>.op (.D8 0) [b0] λb1=>.store 1 b1 a8 (.ia [g w 0,I 1] λb2=>.rn [b2])) (.rx 2 [g w 0])) (lx 2 (λb3=>.fa p 3 λ_ b4=>.store 1 b4 u (.Hu 3 p (.rr [.tuple []]))) λb3=>.Hu 3 p (.rr [.tuple []]))) λo=>.Hu 3 p (.rr [.tuple []]))
theorem jz:GP cx 130 aEP:=λ_=>by kernel_rfl
def aEQ(p q:Aa):IT:=
 .BV p 2 λ_ _ a=>.ln [a] λb=>.ib [b,I 1] λc=>.loop 1 [c] (λd=>.ih [g d 0,I 0] λe=>.AH e (.BV p 2 λ_ _ f=>.ea 4 [f,g d 0] λh=>.load (some 4) h λj=>.cells 4 j λk=>.op (.By 1) [q] λm=>.call 214 [a4 k,m] λn=>.AH n (.BV p 2 λ_ _ o=>.call 212 [o,q,ff] λs=>.fa p 2 λ_ u=>.store 1 u s (.BV p 2 λ_ _ w=>.call 215 [w,g k 0] λy=>.fa p 2 λ_ z=>.store 1 z y (.rr [g d 0]))) (.Be 216 [g k 1,g k 2] λa0=>.AH a0 (.rr [g d 0]) (.ib [g d 0,I 1] λa1=>.rn [a1]))) (.rx 0 [g d 0])) (lx 0 (λa2=>.rr [.tuple []]) λa2=>.rr [.tuple []])
theorem j_:DO cx 131 aEQ:=λ_ _=>by kernel_rfl
def aAK(p q:Aa):IT:=
 .op (.By 1) [q] λa=>.call 217 [p] λb=>.call 214 [b,a] λc=>.AH c (.BV p 3 λ_ d e=>.call 217 [p] λf=>.ld d λh=>.same e h (.op (.part 0 none) [f] λj=>.call 218 [e,j] λk=>.il [k,I 0] λm=>.AH m (.BV p 2 λ_ _ n=>.call 219 [n] λo=>.fa p 2 λ_ s=>.store 1 s o (.rr [.tuple []])) (.loop 3 [I 1] (λu=>.ik [g u 0,I 8] λw=>.AH w (.call 220 [p,q] λy=>.nt [y] λz=>.AH z (.rr [g u 0]) (.ia [g u 0,I 1] λa0=>.rn [a0])) (.rx 0 [g u 0])) (lx 0 (λa1=>.rr [.tuple []]) λa1=>.rr [.tuple []])))) (.loop 3 [I 1] (λa2=>.ik [g a2 0,I 8] λa5=>.AH a5 (.call 220 [p,q] λa7=>.nt [a7] λa8=>.AH a8 (.rr [g a2 0]) (.ia [g a2 0,I 1] λb0=>.rn [b0])) (.rx 0 [g a2 0])) (lx 0 (λb1=>.rr [.tuple []]) λb1=>.rr [.tuple []]))
theorem mM:DO cx 132 aAK:=λ_ _=>by kernel_rfl
end Go.Am
