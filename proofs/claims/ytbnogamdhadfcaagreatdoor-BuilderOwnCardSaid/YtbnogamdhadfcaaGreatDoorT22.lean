/- Lemmas -/
import Derived.Test.YtbnogamdhadfcaaGreatDoorT10
import Derived.Test.YtbnogamdhadfcaaGreatDoorT18
set_option linter.unusedVariables false
set_option linter.unusedSimpArgs false
namespace Go.Am
open Go
def t69(p:Aa):IT:=
 .op (.Tb false) [p,.ptr none] λa=>.AJ a (.rr [I 0]) (.BW p 0 λ_ _ b=>.ln [b] λc=>.BW p 0 λ_ d e=>.call 154 [p] λf=>.ld d λh=>.same e h (.ib [f,I 1] λj=>.op (.Kn true) [j,I 0] λk=>.op (.Hv 3 false false true) [e,k] λm=>.fa p 0 λ_ n=>.store 1 n m (.BW p 0 λ_ _ o=>.ln [o] λs=>.ib [c,s] λu=>.rr [u])))
theorem aAp:GQ cx 69 t69:=λ_=>by kernel_rfl
def t70(p q:Aa):IT:=
 .cells 1 q λa=>.call 155 [p,.func (.func 156) [] [],.func (.func 157) [] [.CB [g a 0]]] λb=>.rr [b]
theorem aAq:DU cx 70 t70:=λ_ _=>by kernel_rfl
def t71(p:Aa):IT:=
 .fa p 0 λ_ a=>.load (some 13) a λb=>.cells 13 b λc=>.fa p 0 λ_ d=>.fl d 2 λ_ e=>.fa p 0 λ_ f=>.fl f 6 λh j=>.call 159 [e] λk=>.ld h λm=>.same j m (.call 100054 [j] λn=>.cells 1 k λo=>.cells 1 n λs=>.cells 13 (.agg [g c 0,g c 1,g o 0,g c 3,g c 4,g c 5,g s 0,g c 7,g c 8,g c 9,g c 10,g c 11,g c 12]) λu=>.rr [Ts u])
theorem yY:GQ cx 71 t71:=λ_=>by kernel_rfl
def t74(p:Aa):IT:=
 .fa p 0 λ_ a=>.fl a 0 λ_ b=>.ie [b,I 4] λc=>.AJ c (.fa p 0 λ_ d=>.fl d 4 λ_ e=>.ie [e,I 1] λf=>.AJ f (.fa p 0 λ_ h=>.fl h 5 λ_ j=>.se [j,S aSC] λk=>.rr [k]) (.rr [ff])) (.rr [ff])
theorem yZ:GQ cx 74 t74:=λ_=>by kernel_rfl
def t78(p:Aa):IT:=
 .ih [p,I 0] λa=>.AJ a (.ik [p,I 7] λb=>.rr [b]) (.rr [ff])
theorem aAr:GQ cx 78 t78:=λ_=>by kernel_rfl
def t79(p:Aa):IT:=
 .loop 2 [ff,I 0] (λa=>.ln [p] λb=>.il [g a 1,b] λc=>.AJ c (.ea 3 [p,g a 1] λd=>.fl d 0 λ_ e=>.Bk 78 [e] λf=>.nt [f] λh=>.AJ h (.rr [ff,g a 1]) (.ia [g a 1,I 1] λj=>.rn [g a 0,j])) (.rx 0 [g a 0,g a 1])) (lx 0 (λk=>.rr [tt]) λk=>.rr [g k 0])
theorem aAs:GQ cx 79 t79:=λ_=>by kernel_rfl
def t80(p:Aa):IT:=
 .loop 3 [.slnil,I 0] (λa=>.ln [p] λb=>.il [g a 1,b] λc=>.AJ c (.loop 7 [ff,I 0] (λd=>.ln [g a 0] λe=>.il [g d 1,e] λf=>.AJ f (.ea 3 [g a 0,g d 1] λh=>.fl h 0 λ_ j=>.ea 3 [p,g a 1] λk=>.fl k 0 λ_ m=>.ie [j,m] λn=>.AJ n (.ea 3 [g a 0,g d 1] λo=>.fl o 1 λ_ s=>.ea 3 [p,g a 1] λu=>.fl u 1 λ_ w=>.se [s,w] λy=>.AJ y (.ia [g d 1,I 1] λz=>.rn [tt,z]) (.ia [g d 1,I 1] λa0=>.rn [g d 0,a0])) (.ia [g d 1,I 1] λa1=>.rn [g d 0,a1])) (.rx 2 [g d 0,g d 1])) (λx a2=>match x with| .normal=>.fail| .exit i=>if i=2 then .nt [g a2 0] λa5=>.AJ a5 (.ea 3 [p,g a 1] λa7=>.load (some 3) a7 λa8=>.op (.By 3) [a8] λb0=>.op (.append 3 40) [g a 0,b0] λb1=>.ia [g a 1,I 1] λb2=>.rn [b1,b2]) (.ia [g a 1,I 1] λb3=>.rn [g a 0,b3]) else if i=1 then .ia [g a 1,I 1] λb4=>.rn [g a 0,b4] else .ret (.exit i) [g a 0,g a 1]| .ret=>.rr [g a 0,g a 1])) (.rx 0 [g a 0,g a 1])) (lx 0 (λb5=>.rr [g b5 0]) λb5=>.rr [.slnil])
theorem aAt:GQ cx 80 t80:=λ_=>by kernel_rfl
def t84(p q:Aa):IT:=
 .cells 3 q λa=>.op (.Tb false) [p,.ptr none] λb=>.AJ b (.rr [.tuple []]) (.iq [g a 0,I 0] λc=>.Di 100011 (.AJ c (.BW p 0 λ_ _ d=>.ln [d] λe=>.ib [e,I 1] λf=>.loop 5 [I 0,I 0,f] (λh=>.call 154 [p] λj=>.ih [g h 2,j] λk=>.AJ k (.BW p 0 λ_ _ m=>.ea 3 [m,g h 2] λn=>.load (some 3) n λo=>.call 167 [o,a3 a] λs=>.Di 100032 (.AJ s (.ia [g h 1,I 1] λu=>.rn [g h 2,u]) (.rn [g h 0,g h 1])) (λx w=>match x with| .normal=>.ib [g h 2,I 1] λy=>.rn [g w 0,g w 1,y]| .exit i=>if i=1 then .ib [g h 2,I 1] λz=>.rn [g w 0,g w 1,z] else .ret (.exit i) [g w 0,g w 1,g h 2]| .ret=>.rr [g w 0,g w 1,g h 2])) (.rx 0 [g h 0,g h 1,g h 2])) (λx a0=>match x with| .normal=>.fail| .exit i=>if i=0 then .ih [g a0 1,I 3] λa1=>.Di 100037 (.AJ a1 (.BW p 0 λ_ _ a2=>.call 168 [a2,g a0 0] λa5=>.fa p 0 λ_ a7=>.store 1 a7 a5 (.rn [])) (.rn [])) (λx _=>.ret x []) else .ret (.exit i) []| .ret=>.rr [])) (.rn [])) (nx (λa8=>.BW p 0 λ_ b0 b1=>.BW p 0 λ_ b2 b3=>.ln [b3] λb4=>.call 169 [a3 a] λb5=>.ld b2 λb6=>.same b3 b6 (.ld b0 λb7=>.same b1 b7 (.call 153 [b1,b5,b4] λb8=>.fa p 0 λ_ b9=>.store 1 b9 b8 (.rr [.tuple []])))) λa8=>.rr [.tuple []]))
theorem zA:DU cx 84 t84:=λ_ _=>by kernel_rfl
def t85(p q:Aa):IT:=
 .call 52 [p] λa=>.nt [a] λb=>.AJ b (.rr [.tuple [I 0,I 0]]) (.ie [q,I 0] λc=>.Di 100012 (.AJ c (.fa p 2 λ_ d=>.call 24 [d] λe=>.ie [e,I 0] λf=>.AJ f (.BW p 1 λ_ _ h=>.rr [q,h,I 0]) (.call 32 [p] λj=>.op (.part 0 none) [j] λk=>.rn [k,I 0,I 0])) (.rn [q,I 0,I 0])) (nx (λm=>.call 86 [p,g m 0] λn=>.cells 13 n λo=>.Di 200009 (.BW p 15 λ_ _ s=>.AJ s (.ie [g o 0,I 4] λu=>.AJ u (.op (.Bs [I 0,I 0,S [],ff] [(1,1),(2,1)]) [g o 4,g o 5] λw=>.op (.By 1) [S aSI,S aS7,S aS6,S aS8,S [116,114]] λy=>.call 50 [w,y] λz=>.rn [z]) (.rn [ff])) (.rn [ff])) (nx (λa0=>.Di 100046 (.AJ (g a0 0) (.call 170 [p] λa1=>.op (.ext 0) [a1] λa2=>.op (.ext 1) [a1] λa5=>.rn [a2,a5]) (.rn [g m 0,g m 2])) (nx (λa7=>.call 86 [p,g a7 0] λa8=>.cells 13 a8 λb0=>.iq [g b0 11,I 0] λb1=>.AJ b1 (.rr [.tuple [g b0 11,I 0]]) (.rr [.tuple [g a7 0,g a7 1]])) λa7=>.rr [.tuple [g a7 0,g a7 1]])) λa0=>.rr [.tuple [g m 0,g m 2]])) λm=>.rr [.tuple [g m 1,g m 2]]))
theorem iU:DU cx 85 t85:=λ_ _=>by kernel_rfl
def t86(p q:Aa):IT:=
 .BW p 0 λ_ _ a=>.call 45 [a,q] λb=>.op (.ext 0) [b] λc=>.op (.ext 1) [b] λ_=>.cells 13 c λd=>.cells 13 (Ts d) λe=>.rr [Ts e]
theorem zB:DU cx 86 t86:=λ_ _=>by kernel_rfl
def t87(p q:Aa):IT:=
 .ln [p] λa=>.loop 2 [I 0,I 0] (λb=>.il [g b 1,a] λc=>.AJ c (.ea 1 [p,g b 1] λd=>.ld d λe=>.ie [q,e] λf=>.AJ f (.rr [g b 1,g b 1]) (.ia [g b 1,I 1] λh=>.rn [g b 0,h])) (.rx 0 [g b 0,g b 1])) (lx 0 (λj=>.rr [I (-1)]) λj=>.rr [g j 0])
theorem zC:DU cx 87 t87:=λ_ _=>by kernel_rfl
def t88(p q:Aa):IT:=
 .op (.conv .u32) [q] λa=>.ik [a,.int .u32 127] λb=>.AJ b (.op (.conv .u8) [q] λc=>.op (.By 1) [c] λd=>.Fs 1 1 p d λe=>.rr [e]) (.call 171 [p,q] λf=>.rr [f])
theorem zD:DU cx 88 t88:=λ_ _=>by kernel_rfl
def t89(p q r:Aa):IT:=
 .op (.By 1) [q] λa=>.call 107 [p,a] λb=>.iq [b,I 0] λc=>.AJ c (.rr [b]) (.call 43 [p,q] λd=>.fa d 0 λ_ e=>.fl e 0 λ_ f=>.iq [f,I 5] λh=>.AJ h (.fa d 0 λ_ j=>.fl j 0 λ_ k=>.iq [k,I 6] λm=>.AJ m (.rr [I 9]) (.fa d 0 λ_ n=>.op (.Ec 7) [n] λo=>.store 1 o r (.rr [I 0]))) (.fa d 0 λ_ s=>.op (.Ec 7) [s] λu=>.store 1 u r (.rr [I 0])))
theorem zE:LU cx 89 t89:=λ_ _ _=>by kernel_rfl
def t90(p q r:Aa):IT:=
 .op (.Bs [I 0,I 0,.slnil,I 0,I 0,S [],.slnil,S [],S [],S [],ff,I 0,I 0] [(0,1),(7,1)]) [I 5,r] λa=>.call 44 [p,q,a] λb=>.op (.ext 0) [b] λc=>.op (.ext 1) [b] λd=>.rr [.tuple [c,d]]
theorem zF:LU cx 90 t90:=λ_ _ _=>by kernel_rfl
def t91(p:Aa):IT:=
 .call 24 [p] λa=>.ib [a,I 1] λb=>.call 22 [p,b] λc=>.cells 4 c λd=>.rr [a4 d]
theorem zG:GQ cx 91 t91:=λ_=>by kernel_rfl
def t92(p q:Aa):IT:=
 .op (.Tb false) [p,.ptr none] λa=>.AJ a (.rr [I (-1)]) (.ie [q,I 0] λb=>.AJ b (.rr [I (-1)]) (.BW p 0 λ_ _ c=>.ln [c] λd=>.ib [d,I 1] λe=>.loop 4 [I 0,e] (λf=>.ih [g f 1,I 0] λh=>.AJ h (.BW p 0 λ_ _ j=>.ea 3 [j,g f 1] λk=>.fl k 0 λ_ m=>.ie [m,q] λn=>.AJ n (.rr [g f 1,g f 1]) (.ib [g f 1,I 1] λo=>.rn [g f 0,o])) (.rx 0 [g f 0,g f 1])) (lx 0 (λs=>.rr [I (-1)]) λs=>.rr [g s 0])))
theorem zH:DU cx 92 t92:=λ_ _=>by kernel_rfl
def vo(p q:Aa):IT:=
 .fa p 3 λ_ a=>.call 172 [a,q] λb=>.il [b,I 0] λc=>.AJ c (.call 63 [p,q] λ_=>.rr [ff]) (.fa p 3 λ_ d=>.fl d 0 λ_ e=>.ea 3 [e,b] λf=>.load (some 3) f λh=>.op (.Bs [I 0,S [],.slnil,I 0,I 0,I 0,I 0,S [],ff,I 0,I 0,S [],ff,I 0] [(0,3),(3,1),(4,1)]) [h,b,b] λj=>.alloc 14 j λk=>.fa k 0 λ_ m=>.fl m 0 λ_ n=>.fa p 2 λ_ o=>.call 144 [o,n] λs=>.il [s,I 0] λu=>.AJ u (.call 173 [k,p,b] λ_=>.rr [ff]) (.ie [s,I 0] λw=>.AJ w (.rr [ff]) (.fa p 2 λ_ y=>.call 174 [y,I 1,n] λz=>.nt [z] λa0=>.AJ a0 (.rr [ff]) (.fa p 2 λ_ a1=>.call 175 [a1,n] λa2=>.il [a2,I 0] λa5=>.AJ a5 (.fa p 2 λ_ a7=>.call 147 [a7,n] λ_=>.call 173 [k,p,b] λ_=>.rr [ff]) (.fa p 2 λ_ a8=>.ib [s,I 1] λb0=>.fa p 2 λ_ b1=>.call 22 [a8,b0] λb2=>.call 22 [b1,a2] λb3=>.fa k 5 λ_ b4=>.store 4 b4 b2 (.fa k 9 λ_ b5=>.store 4 b5 b3 (.fa k 9 λ_ b6=>.fl b6 0 λ_ b7=>.fa k 13 λ_ b8=>.store 1 b8 b7 (.call 176 [p,k,s,a2] λ_=>.fa k 5 λ_ b9=>.fl b9 0 λ_ c0=>.call 85 [p,c0] λc1=>.op (.ext 0) [c1] λc2=>.op (.ext 1) [c1] λc3=>.BW k 13 λ_ _ c4=>.call 47 [p,c4,c2,c3] λ_=>.fa k 0 λ_ c5=>.load (some 3) c5 λc6=>.fa k 9 λ_ c7=>.fl c7 0 λc8 c9=>.call 146 [c6] λd0=>.ld c8 λd1=>.same c9 d1 (.call 46 [p,d0,I 1,c9] λd2=>.cells 4 d2 λd3=>.BW p 0 λ_ _ d4=>.fa k 9 λ_ d5=>.fl d5 0 λ_ d6=>.call 113 [d4,d6] λd7=>.ln [d7] λd8=>.loop 25 [I 0] (λd9=>.il [g d9 0,d8] λe0=>.AJ e0 (.ea 1 [d7,g d9 0] λe1=>.ld e1 λe2=>.call 47 [p,e2,g d3 0,I 0] λ_=>.ia [g d9 0,I 1] λe3=>.rn [e3]) (.rx 0 [g d9 0])) (lx 0 (λe4=>.fa k 9 λ_ e5=>.fl e5 0 λ_ e6=>.call 47 [p,g d3 0,e6,I 0] λ_=>.BW k 3 λ_ _ e7=>.call 173 [k,p,e7] λ_=>.fa p 3 λ_ e8=>.fa k 0 λ_ e9=>.fl e9 1 λ_ f0=>.fa k 0 λ_ f1=>.fl f1 2 λ_ f2=>.op (.Bs [I 0,S [],.slnil] [(0,1),(1,1),(2,1)]) [g d3 0,f0,f2] λf3=>.BW k 4 λ_ _ f4=>.call 177 [e8,f3,f4] λ_=>.fa p 2 λ_ f5=>.call 178 [f5,n] λ_=>.fa p 2 λ_ f6=>.fa p 2 λ_ f7=>.fa k 9 λ_ f8=>.fl f8 0 λ_ f9=>.call 144 [f7,f9] λh0=>.ia [h0,I 1] λh1=>.call 179 [f6,a4 d3,h1] λ_=>.rr [tt]) λe4=>.rr [ff]))))))))))
theorem Qc:DU cx 93 vo:=λ_ _=>by kernel_rfl
def t94(p q:Aa):IT:=
 .op (.Tb true) [p,.ptr none] λa=>.AJ a (.ih [q,I 1] λb=>.AJ b (.BW p 0 λ_ _ c=>.ln [c] λd=>.ik [q,d] λe=>.rr [e]) (.rr [ff])) (.rr [ff])
theorem zI:DU cx 94 t94:=λ_ _=>by kernel_rfl
def t97(p q:Aa):IT:=
 .cells 13 q λa=>.BW p 0 λ_ _ b=>.op (.By 13) [Ts a] λc=>.Fs 13 168 b c λd=>.fa p 0 λ_ e=>.store 1 e d (.BW p 1 λ_ _ f=>.op (.By 1) [I 0] λh=>.Fs 1 8 f h λj=>.fa p 1 λ_ k=>.store 1 k j (.BW p 0 λ_ _ m=>.ln [m] λn=>.ib [n,I 1] λo=>.rr [o]))
theorem aAu:DU cx 97 t97:=λ_ _=>by kernel_rfl
def t98(p q r u w:Aa):IT:=
 .call 102 [p,q] λa=>.iq [a,I 0] λb=>.AJ b (.rr [.tuple [I 0,a]]) (.Bk 78 [r] λc=>.nt [c] λd=>.AJ d (.rr [.tuple [I 0,I 2]]) (.call 79 [w] λe=>.nt [e] λf=>.AJ f (.rr [.tuple [I 0,I 2]]) (.call 80 [w] λh=>.op (.Bs [I 0,I 0,.slnil,I 0,I 0,S [],.slnil,S [],S [],S [],ff,I 0,I 0] [(0,1),(3,1),(4,1),(5,1),(6,1)]) [I 4,q,r,u,h] λj=>.call 97 [p,j] λk=>.BW p 0 λ_ _ m=>.ea 13 [m,k] λn=>.load (some 13) n λo=>.call 163 [o] λs=>.AJ s (.call 184 [p,q] λy=>.op (.Bs [I 0,I 0,.slnil,I 0,I 0,S [],.slnil,S [],S [],S [],ff,I 0,I 0] [(0,1),(3,1),(12,1)]) [I 2,y,k] λz=>.call 97 [p,z] λa0=>.BW p 0 λ_ _ a1=>.ea 13 [a1,k] λa2=>.op (.Ec 11) [a2] λa5=>.store 1 a5 a0 (.rr [.tuple [k,I 0]])) (.rr [.tuple [k,I 0]]))))
theorem zJ:Tq5 cx 98 t98:=λ_ _ _ _ _=>by kernel_rfl
def t99(p q r u:Aa):IT:=
 .call 185 [p,q] λa=>.ie [a,I 1] λb=>.AJ b (.call 185 [p,r] λc=>.ie [c,I 4] λd=>.AJ d (.BW p 0 λ_ _ e=>.call 186 [e,q] λf=>.loop 3 [I 0] (λh=>.ln [f] λj=>.il [g h 0,j] λk=>.AJ k (.ea 1 [f,g h 0] λm=>.ld m λn=>.call 185 [p,n] λo=>.ie [o,I 4] λs=>.AJ s (.rr [g h 0]) (.ia [g h 0,I 1] λw=>.rn [w])) (.rx 0 [g h 0])) (lx 0 (λy=>.BW p 0 λ_ _ z=>.call 187 [z,q,r,u] λ_=>.rr [.tuple []]) λy=>.rr [.tuple []])) (.BW p 0 λ_ _ a0=>.call 187 [a0,q,r,u] λ_=>.rr [.tuple []])) (.BW p 0 λ_ _ a1=>.call 187 [a1,q,r,u] λ_=>.rr [.tuple []])
theorem iV:dk cx 99 t99:=λ_ _ _ _=>by kernel_rfl
def aEA(p q r:Aa):IT:=
 .ie [p,I 2] λa=>.AJ a (.Bk 188 [S aSH,q] λb=>.rr [b]) (.iq [p,I 3] λc=>.AJ c (.rr [ff]) (.op (.str .neq) [q,S aSF] λd=>.AJ d (.rr [ff]) (.loop 6 [ff,I 0] (λe=>.ln [r] λf=>.il [g e 1,f] λh=>.AJ h (.ea 3 [r,g e 1] λj=>.fl j 0 λ_ k=>.ie [k,I 0] λm=>.AJ m (.ea 3 [r,g e 1] λn=>.fl n 1 λ_ o=>.se [o,S aTd] λs=>.AJ s (.ea 3 [r,g e 1] λu=>.fl u 2 λ_ w=>.Bk 189 [w] λy=>.se [y,S aTb] λz=>.AJ z (.rr [tt,g e 1]) (.se [y,S aSK] λa0=>.rr [a0,g e 1])) (.ia [g e 1,I 1] λa1=>.rn [g e 0,a1])) (.ia [g e 1,I 1] λa2=>.rn [g e 0,a2])) (.rx 0 [g e 0,g e 1])) (lx 0 (λa5=>.rr [ff]) λa5=>.rr [g a5 0]))))
theorem js:LU cx 100 aEA:=λ_ _ _=>by kernel_rfl
def aEB(p:Aa):IT:=
 .BW p 2 λ_ _ a=>.ln [a] λb=>.ib [b,I 1] λc=>.loop 1 [c] (λd=>.ih [g d 0,I 0] λe=>.AJ e (.BW p 2 λ_ _ f=>.ea 4 [f,g d 0] λh=>.load (some 4) h λj=>.ie [g d 0,I 0] λk=>.cells 4 j λm=>.AJ k (.BW p 9 λ_ _ n=>.AJ n (.fa p 10 λ_ o=>.load (some 4) o λs=>.cells 4 s λu=>.call 190 [p,a4 u,g d 0,k] λw=>.op (.ext 0) [w] λy=>.op (.ext 1) [w] λz=>.AJ z (.fa p 4 λ_ a0=>.store 1 a0 y (.rr [g d 0])) (.ib [g d 0,I 1] λa1=>.rn [a1])) (.call 190 [p,a4 m,g d 0,k] λa2=>.op (.ext 0) [a2] λa5=>.op (.ext 1) [a2] λa7=>.AJ a7 (.fa p 4 λ_ a8=>.store 1 a8 a5 (.rr [g d 0])) (.ib [g d 0,I 1] λb0=>.rn [b0]))) (.call 190 [p,a4 m,g d 0,k] λb1=>.op (.ext 0) [b1] λb2=>.op (.ext 1) [b1] λb3=>.AJ b3 (.fa p 4 λ_ b4=>.store 1 b4 b2 (.rr [g d 0])) (.ib [g d 0,I 1] λb5=>.rn [b5]))) (.rx 0 [g d 0])) (lx 0 (λb6=>.fa p 4 λ_ b7=>.store 1 b7 (I 7) (.rr [.tuple []])) λb6=>.rr [.tuple []])
theorem jt:GQ cx 101 aEB:=λ_=>by kernel_rfl
def aEC(p q:Aa):IT:=
 .call 164 [p,q] λa=>.nt [a] λb=>.AJ b (.rr [I 3]) (.BW p 0 λ_ _ c=>.ea 13 [c,q] λd=>.fl d 0 λ_ e=>.iq [e,I 1] λf=>.AJ f (.rr [I 9]) (.rr [I 0]))
theorem ju:DU cx 102 aEC:=λ_ _=>by kernel_rfl
def aED(p:Aa):IT:=
 .BW p 0 λ_ _ a=>.ln [a] λb=>.ib [b,I 1] λc=>.rr [c]
theorem jv:GQ cx 103 aED:=λ_=>by kernel_rfl
def aEE(p q:Aa):IT:=
 .ln [p] λa=>.ln [q] λb=>.iq [a,b] λc=>.AJ c (.rr [ff]) (.loop 4 [ff,I 0] (λd=>.ln [p] λe=>.il [g d 1,e] λf=>.AJ f (.ea 13 [p,g d 1] λh=>.load (some 13) h λj=>.ea 13 [q,g d 1] λk=>.load (some 13) k λm=>.call 191 [j,m] λn=>.nt [n] λo=>.AJ o (.rr [ff,g d 1]) (.ia [g d 1,I 1] λs=>.rn [g d 0,s])) (.rx 0 [g d 0,g d 1])) (lx 0 (λu=>.rr [tt]) λu=>.rr [g u 0]))
theorem jw:DU cx 104 aEE:=λ_ _=>by kernel_rfl
def aEF(p:Aa):IT:=
 .loop 3 [.slnil,I 1] (λa=>.BW p 0 λ_ _ b=>.ln [b] λc=>.il [g a 1,c] λd=>.AJ d (.BW p 0 λ_ _ e=>.ea 13 [e,g a 1] λf=>.load (some 13) f λh=>.call 192 [h] λj=>.op (.By 13) [j] λk=>.op (.append 13 168) [g a 0,k] λm=>.ia [g a 1,I 1] λn=>.rn [m,n]) (.rx 0 [g a 0,g a 1])) (lx 0 (λo=>.rr [g o 0]) λo=>.rr [.slnil])
theorem jx:GQ cx 105 aEF:=λ_=>by kernel_rfl
def aAv(p q:Aa):IT:=
 .op (.By 1) [q] λa=>.call 107 [p,a] λb=>.iq [b,I 0] λc=>.AJ c (.rr [b]) (.call 43 [p,q] λd=>.fa d 0 λ_ e=>.fl e 0 λ_ f=>.iq [f,I 1] λh=>.AJ h (.rr [I 9]) (.rr [I 0]))
theorem lY:DU cx 106 aAv:=λ_ _=>by kernel_rfl
def aAw(p q:Aa):IT:=
 .op (.Tb false) [p,.ptr none] λa=>.AJ a (.rr [I 1]) (.ln [q] λb=>.loop 4 [I 0,I 0] (λc=>.il [g c 1,b] λd=>.AJ d (.ea 1 [q,g c 1] λe=>.ld e λf=>.call 94 [p,f] λh=>.nt [h] λj=>.AJ j (.rr [I 3,g c 1]) (.ia [g c 1,I 1] λk=>.rn [g c 0,k])) (.rx 0 [g c 0,g c 1])) (lx 0 (λm=>.rr [I 0]) λm=>.rr [g m 0]))
theorem lZ:DU cx 107 aAw:=λ_ _=>by kernel_rfl
def aAx(p q:Aa):IT:=
 .O4 λa=>.op (.Bs [I 0,S [],S []] [(0,1),(1,1)]) [I 4,S aTi] λb=>.J4 a (S aSR) b (.op (.Bs [I 0,S [],S []] [(0,1),(1,1)]) [I 4,S aTh] λc=>.J4 a (S aSQ) c (.op (.Bs [I 0,S [],S []] [(0,1),(1,1)]) [I 4,S aTp] λd=>.J4 a (S aSZ) d (.op (.Bs [I 0,S [],S []] [(0,1),(1,1)]) [I 4,S aTq] λe=>.J4 a (S aS0) e (.op (.Bs [I 0,S [],S []] [(0,1),(1,1)]) [I 4,S aTr] λf=>.J4 a (S aS1) f (.op (.Bs [I 0,S [],S []] [(0,1),(1,1)]) [I 4,S aS9] λh=>.J4 a (S aSU) h (.op (.Bs [I 0,S [],S []] [(0,1),(1,1)]) [I 4,S aTs] λj=>.J4 a (S aS2) j (.op (.Bs [I 0,S [],S []] [(0,1),(1,1)]) [I 5,S [108,97,110,103]] λk=>.J4 a (S aS4) k (.op (.Bs [I 0,S [],S []] [(0,1),(1,1)]) [I 5,S aTo] λm=>.J4 a (S aSV) m (.op (.Bs [I 0,S [],S []] [(0,1),(1,1)]) [I 6,S aSW] λn=>.J4 a (S aSW) n (.op (.Bs [I 0,S [],S []] [(0,1),(1,1)]) [I 6,S aTc] λo=>.J4 a (S aSM) o (.ln [q] λs=>.loop 4 [.slnil,I 0] (λu=>.il [g u 1,s] λw=>.AJ w (.ea 3 [q,g u 1] λy=>.load (some 3) y λz=>.cells 3 z λa0=>.op (.Bs [I 0,S [],S []] [(1,1),(2,1)]) [g a0 1,g a0 2] λa1=>.cells 3 a1 λa2=>.ie [p,I 2] λa5=>.Di 100036 (.AJ a5 (.Bk 193 [g a0 1] λa7=>.cells 1 a7 λa8=>.rn [.agg [g a2 0,g a8 0,g a2 2]]) (.Di 200009 (.ie [p,I 3] λb0=>.AJ b0 (.se [g a0 1,S aS3] λb1=>.rn [b1]) (.rn [ff])) (λx b2=>match x with| .normal=>.Di 100043 (.AJ (g b2 0) (.cells 1 (S aS5) λb3=>.rn [.agg [g a2 0,g b3 0,g a2 2]]) (.rn [a3 a2])) (λx b4=>.cells 3 (g b4 0) λb5=>.ret x [a3 b5])| .exit i=>.ret (.exit i) [a3 a2]| .ret=>.rr [a3 a2]))) (λx b6=>.cells 3 (g b6 0) λb7=>match x with| .normal=>.L5 (.agg [I 0,S [],S []]) true a (g b7 1) λb8=>.op (.ext 0) [b8] λb9=>.op (.ext 1) [b8] λc0=>.cells 3 b9 λc1=>.Di 200012 (.AJ c0 (.ie [p,I 2] λc2=>.AJ c2 (.rn [tt]) (.ie [p,I 3] λc3=>.rn [c3])) (.rn [ff])) (λx c4=>match x with| .normal=>.Di 100067 (.AJ (g c4 0) (.cells 1 (g c1 0) λc5=>.cells 1 (g c1 1) λc6=>.rn [.agg [g c5 0,g c6 0,g b7 2]]) (.rn [a3 b7])) (λx c7=>.cells 3 (g c7 0) λc8=>match x with| .normal=>.op (.By 3) [a3 c8] λc9=>.op (.append 3 40) [g u 0,c9] λd0=>.ia [g u 1,I 1] λd1=>.rn [d0,d1]| .exit i=>if i=1 then .ia [g u 1,I 1] λd2=>.rn [g u 0,d2] else .ret (.exit i) [g u 0,g u 1]| .ret=>.rr [g u 0,g u 1])| .exit i=>if i=1 then .ia [g u 1,I 1] λd3=>.rn [g u 0,d3] else .ret (.exit i) [g u 0,g u 1]| .ret=>.rr [g u 0,g u 1])| .exit i=>if i=2 then .L5 (.agg [I 0,S [],S []]) true a (g b7 1) λd4=>.op (.ext 0) [d4] λd5=>.op (.ext 1) [d4] λd6=>.cells 3 d5 λd7=>.Di 200012 (.AJ d6 (.ie [p,I 2] λd8=>.AJ d8 (.rn [tt]) (.ie [p,I 3] λd9=>.rn [d9])) (.rn [ff])) (λx e0=>match x with| .normal=>.Di 100067 (.AJ (g e0 0) (.cells 1 (g d7 0) λe1=>.cells 1 (g d7 1) λe2=>.rn [.agg [g e1 0,g e2 0,g b7 2]]) (.rn [a3 b7])) (λx e3=>.cells 3 (g e3 0) λe4=>match x with| .normal=>.op (.By 3) [a3 e4] λe5=>.op (.append 3 40) [g u 0,e5] λe6=>.ia [g u 1,I 1] λe7=>.rn [e6,e7]| .exit i=>if i=1 then .ia [g u 1,I 1] λe8=>.rn [g u 0,e8] else .ret (.exit i) [g u 0,g u 1]| .ret=>.rr [g u 0,g u 1])| .exit i=>if i=1 then .ia [g u 1,I 1] λe9=>.rn [g u 0,e9] else .ret (.exit i) [g u 0,g u 1]| .ret=>.rr [g u 0,g u 1]) else if i=1 then .ia [g u 1,I 1] λf0=>.rn [g u 0,f0] else .ret (.exit i) [g u 0,g u 1]| .ret=>.rr [g u 0,g u 1])) (.rx 0 [g u 0,g u 1])) (lx 0 (λf1=>.rr [g f1 0]) λf1=>.rr [.slnil]))))))))))))
theorem l8:DU cx 108 aAx:=λ_ _=>by kernel_rfl
def t109(p:Aa):IT:=
 .Bk 194 [p,S aSz] λa=>.rr [a]
theorem mA:GQ cx 109 t109:=λ_=>by kernel_rfl
def jy(p q r u w:Aa):IT:=
 .call 106 [p,q] λa=>.iq [a,I 0] λb=>.AJ b (.rr [.tuple [I 0,a]]) (.call 161 [w] λc=>.op (.ext 0) [c] λd=>.op (.ext 1) [c] λe=>.nt [e] λf=>.AJ f (.rr [.tuple [I 0,I 2]]) (.op (.By 1) [r] λh=>.call 160 [h] λj=>.nt [j] λk=>.AJ k (.rr [.tuple [I 0,I 2]]) (.op (.Bs [I 0,I 0,.slnil,I 0,I 0,S [],.slnil,S [],S [],S [],ff,I 0,I 0] [(0,1),(3,1),(4,1),(5,1),(6,1)]) [I 4,q,r,u,d] λm=>.call 42 [p,m] λn=>.call 43 [p,n] λo=>.call 74 [o] λs=>.AJ s (.call 195 [p,q] λy=>.op (.Bs [I 0,I 0,.slnil,I 0,I 0,S [],.slnil,S [],S [],S [],ff,I 0,I 0] [(0,1),(12,1),(3,1)]) [I 2,n,y] λz=>.call 42 [p,z] λa0=>.call 43 [p,n] λa1=>.fa a1 0 λ_ a2=>.op (.Ec 11) [a2] λa5=>.store 1 a5 a0 (.rr [.tuple [n,I 0]])) (.rr [.tuple [n,I 0]]))))
theorem YV:Tq5 cx 110 jy:=λ_ _ _ _ _=>by kernel_rfl
def jz(p q:Aa):IT:=
 .call 86 [p,q] λa=>.cells 13 a λb=>.iq [g b 11,I 0] λc=>.AJ c (.call 86 [p,g b 11] λd=>.cells 13 d λe=>.iq [g e 3,I 0] λf=>.AJ f (.rr [g e 3]) (.BW p 1 λ_ _ h=>.rr [h])) (.iq [g b 3,I 0] λj=>.AJ j (.rr [g b 3]) (.BW p 1 λ_ _ k=>.rr [k]))
theorem YW:DU cx 111 jz:=λ_ _=>by kernel_rfl
def aAy(p q:Aa):IT:=
 .call 196 [p,q] λa=>.ih [a,I 0] λb=>.rr [b]
theorem mB:DU cx 112 aAy:=λ_ _=>by kernel_rfl
def j_(p q:Aa):IT:=
 .call 94 [p,q] λa=>.nt [a] λb=>.AJ b (.rr [.slnil]) (.call 43 [p,q] λc=>.fa c 0 λ_ d=>.fl d 2 λ_ e=>.call 159 [e] λf=>.rr [f])
theorem YX:DU cx 113 j_:=λ_ _=>by kernel_rfl
def aAz(p q:Aa):IT:=
 .ld q λa=>.call 86 [a,p] λb=>.op (.part 0 none) [b] λc=>.ie [c,I 4] λd=>.rr [d]
theorem mC:DU cx 114 aAz:=λ_ _=>by kernel_rfl
def YY(p q r u:Aa):IT:=
 .op (.By 1) [q,r] λa=>.call 107 [p,a] λb=>.iq [b,I 0] λc=>.AJ c (.rr [b]) (.Di 200004 (.iq [u,I 0] λd=>.AJ d (.call 94 [p,u] λe=>.nt [e] λf=>.rn [f]) (.rn [ff])) (nx (λh=>.AJ (g h 0) (.rr [I 3]) (.call 43 [p,q] λj=>.call 43 [p,r] λk=>.Di 200007 (.fa j 0 λ_ m=>.fl m 0 λ_ n=>.iq [n,I 1] λo=>.AJ o (.fa j 0 λ_ s=>.fl s 0 λ_ w=>.iq [w,I 2] λy=>.AJ y (.fa j 0 λ_ z=>.fl z 0 λ_ a0=>.iq [a0,I 4] λa1=>.rn [a1]) (.rn [ff])) (.rn [ff])) (λx a2=>match x with| .normal=>.AJ (g a2 0) (.rr [I 4]) (.fa k 0 λ_ a5=>.fl a5 0 λ_ a7=>.ie [a7,I 1] λa8=>.AJ a8 (.rr [I 4]) (.fa k 0 λ_ b0=>.fl b0 0 λ_ b1=>.ie [b1,I 2] λb2=>.AJ b2 (.rr [I 4]) (.call 197 [p,r,q] λb3=>.AJ b3 (.rr [I 4]) (.Di 200012 (.iq [u,I 0] λb4=>.AJ b4 (.ie [u,r] λb5=>.AJ b5 (.rn [tt]) (.call 43 [p,u] λb6=>.fa b6 0 λ_ b7=>.fl b7 1 λ_ b8=>.iq [b8,q] λb9=>.rn [b9])) (.rn [ff])) (λx c0=>match x with| .normal=>.AJ (g c0 0) (.rr [I 5]) (.call 198 [p,r] λ_=>.fa j 0 λ_ c1=>.fl c1 2 λ_ c2=>.ln [c2] λc3=>.iq [u,I 0] λc4=>.Di 100103 (.AJ c4 (.fa j 0 λ_ c5=>.fl c5 2 λ_ c7=>.call 87 [c7,u] λc8=>.rn [c8]) (.rn [c3])) (nx (λc9=>.fa j 0 λ_ d0=>.fl d0 2 λ_ d1=>.op (.By 1) [r] λd2=>.mem .p9 [d1,g c9 0,d2] λd3=>.fa j 0 λ_ d4=>.op (.Ec 2) [d4] λd5=>.store 1 d5 d3 (.fa k 0 λ_ d6=>.op (.Ec 1) [d6] λd7=>.store 1 d7 q (.rr [I 0]))) λc9=>.rr [I 0]))| .exit i=>if i=0 then .call 198 [p,r] λ_=>.fa j 0 λ_ d8=>.fl d8 2 λ_ d9=>.ln [d9] λe0=>.iq [u,I 0] λe1=>.Di 100103 (.AJ e1 (.fa j 0 λ_ e2=>.fl e2 2 λ_ e3=>.call 87 [e3,u] λe4=>.rn [e4]) (.rn [e0])) (nx (λe5=>.fa j 0 λ_ e6=>.fl e6 2 λ_ e7=>.op (.By 1) [r] λe8=>.mem .p9 [e7,g e5 0,e8] λe9=>.fa j 0 λ_ f0=>.op (.Ec 2) [f0] λf1=>.store 1 f1 e9 (.fa k 0 λ_ f2=>.op (.Ec 1) [f2] λf3=>.store 1 f3 q (.rr [I 0]))) λe5=>.rr [I 0]) else .fail| .ret=>.rr [I 0])))))| .exit i=>if i=0 then .call 198 [p,r] λ_=>.fa j 0 λ_ f4=>.fl f4 2 λ_ f5=>.ln [f5] λf6=>.iq [u,I 0] λf7=>.Di 100103 (.AJ f7 (.fa j 0 λ_ f8=>.fl f8 2 λ_ f9=>.call 87 [f9,u] λh0=>.rn [h0]) (.rn [f6])) (nx (λh1=>.fa j 0 λ_ h2=>.fl h2 2 λ_ h3=>.op (.By 1) [r] λh4=>.mem .p9 [h3,g h1 0,h4] λh5=>.fa j 0 λ_ h6=>.op (.Ec 2) [h6] λh7=>.store 1 h7 h5 (.fa k 0 λ_ h8=>.op (.Ec 1) [h8] λh9=>.store 1 h9 q (.rr [I 0]))) λh1=>.rr [I 0]) else .fail| .ret=>.rr [I 0]))) λh=>.rr [I 0]))
theorem LI:dk cx 115 YY:=λ_ _ _ _=>by kernel_rfl
def aAA(p q r:Aa):IT:=
 .cells 4 q λa=>.op (.Hv 4 false false true) [p,r] λb=>.op (.append 4 40) [.slnil,b] λc=>.op (.By 4) [a4 a] λd=>.op (.append 4 40) [c,d] λe=>.op (.Hv 4 false true false) [p,r] λf=>.op (.append 4 40) [e,f] λh=>.rr [h]
theorem mD:LU cx 116 aAA:=λ_ _ _=>by kernel_rfl
def aAB(p q:Aa):IT:=
 .ie [p,I 3] λa=>.AJ a (.se [q,S aSF] λb=>.AJ b (.rr [tt]) (.Bk 200 [p,q] λc=>.rr [c])) (.ie [p,I 2] λd=>.AJ d (.se [q,S aTl] λe=>.AJ e (.rr [tt]) (.se [q,S aSP] λf=>.AJ f (.rr [tt]) (.se [q,S aS9] λh=>.rr [h]))) (.ie [p,I 1] λj=>.AJ j (swv q (.rr [tt]) (.rr [ff]) Ml) (.rr [ff])))
theorem mE:DU cx 117 aAB:=λ_ _=>by kernel_rfl
def zK(p q:Aa):IT:=
 .ln [p] λa=>.loop 2 [I 0,I 0] (λb=>.il [g b 1,a] λc=>.AJ c (.ea 3 [p,g b 1] λd=>.load (some 3) d λe=>.FH q [e] λf=>.AJ f (.rr [g b 1,g b 1]) (.ia [g b 1,I 1] λh=>.rn [g b 0,h])) (.rx 0 [g b 0,g b 1])) (lx 0 (λj=>.rr [I (-1)]) λj=>.rr [g j 0])
theorem T3:DU cx 118 zK:=λ_ _=>by kernel_rfl
def aAC(p:Aa):IT:=
 .cells 3 p λa=>.ie [g a 0,I 0] λb=>.AJ b (.se [g a 1,S aTd] λc=>.rr [c]) (.rr [ff])
theorem mF:GQ cx 119 aAC:=λ_=>by kernel_rfl
def aAD(p q:Aa):IT:=
 .Bk 201 [p] λa=>.Bk 201 [q] λb=>.se [a,b] λc=>.rr [c]
theorem mG:DU cx 120 aAD:=λ_ _=>by kernel_rfl
def aAE(p q:Aa):IT:=
 .call 202 [p,q] λa=>.ih [a,I 0] λb=>.rr [b]
theorem mH:DU cx 121 aAE:=λ_ _=>by kernel_rfl
def aAF(p q r:Aa):IT:=
 .cells 4 q λa=>.call 203 [] λb=>.ln [b] λc=>.loop 2 [I 0,ff,I 0] (λd=>.il [g d 2,c] λe=>.AJ e (.ea 2 [b,g d 2] λf=>.load (some 2) f λh=>.cells 2 h λj=>.op (.By 1) [g j 0] λk=>.call 50 [a4 a,k] λm=>.AJ m (.rr [g j 1,tt,g d 2]) (.ia [g d 2,I 1] λn=>.rn [g d 0,g d 1,n])) (.rx 0 [g d 0,g d 1,g d 2])) (lx 0 (λo=>.op (.By 1) [S aTf] λs=>.call 50 [a4 a,s] λu=>.AJ u (.call 204 [p,r] λw=>.rr [.tuple [w,tt]]) (.Di 200009 (.op (.By 1) [S [116,100],S [116,104]] λy=>.call 50 [a4 a,y] λz=>.AJ z (.ig [r,I 0] λa0=>.rn [a0]) (.rn [ff])) (λx a1=>match x with| .normal=>.AJ (g a1 0) (.rr [.tuple [I 15,tt]]) (.op (.By 1) [S aSC] λa2=>.call 50 [a4 a,a2] λa5=>.AJ a5 (.BW p 6 λ_ _ a7=>.ln [a7] λa8=>.ig [a8,I 0] λb0=>.AJ b0 (.BW p 6 λ_ _ b1=>.ib [a8,I 1] λb2=>.ea 1 [b1,b2] λb3=>.ld b3 λb4=>.rr [.tuple [b4,tt]]) (.rr [.tuple [I 7,tt]])) (.Di 200016 (.op (.By 1) [S aTm] λb5=>.call 50 [a4 a,b5] λb6=>.AJ b6 (.ig [r,I 0] λb7=>.rn [b7]) (.rn [ff])) (λx b8=>match x with| .normal=>.AJ (g b8 0) (.rr [.tuple [I 4,tt]]) (.op (.By 1) [S aSL] λb9=>.call 50 [a4 a,b9] λc1=>.AJ c1 (.BW p 7 λ_ _ c2=>.ie [c2,I 0] λc4=>.AJ c4 (.rr [.tuple [I 3,tt]]) (.rr [.tuple [I 6,tt]])) (.ie [r,I 0] λc5=>.rr [.tuple [I 7,c5]]))| .exit i=>if i=2 then .ie [r,I 0] λc6=>.rr [.tuple [I 7,c6]] else .fail| .ret=>.rr [.tuple [g o 0,g o 1]])))| .exit i=>if i=2 then .ie [r,I 0] λc8=>.rr [.tuple [I 7,c8]] else .fail| .ret=>.rr [.tuple [g o 0,g o 1]]))) λo=>.rr [.tuple [g o 0,g o 1]])
theorem mI:LU cx 122 aAF:=λ_ _ _=>by kernel_rfl
def aEG(p q:Aa):IT:=
 .cells 12 q λa=>.call 124 [p,tX a,I 1] λb=>.rr [b]
theorem ka:DU cx 123 aEG:=λ_ _=>by kernel_rfl
def aAG(p q r:Aa):IT:=
 .cells 12 q λa=>.Bk 78 [r] λb=>.nt [b] λc=>.AJ c (.rr [I 0]) (.call 205 [p,I 0] λd=>.op (.ext 0) [d] λe=>.op (.ext 1) [d] λf=>.call 140 [p,tX a,r,e] λh=>.cells 4 h λj=>.call 99 [p,e,g j 0,f] λ_=>.BW p 2 λ_ _ k=>.op (.append 4 40) [.slnil,k] λm=>.op (.By 4) [a4 j] λn=>.op (.append 4 40) [m,n] λo=>.fa p 2 λ_ s=>.store 1 s o (.rr [g j 0]))
theorem mJ:LU cx 124 aAG:=λ_ _ _=>by kernel_rfl
def aEH(p q:Aa):IT:=
 .cells 12 q λa=>.call 123 [p,tX a] λb=>.BW p 3 λ_ _ c=>.op (.Bs [I 0,S [],.slnil] [(0,1),(1,1),(2,1)]) [b,g a 1,g a 8] λd=>.call 206 [c,d] λe=>.fa p 3 λ_ f=>.store 1 f e (.rr [b])
theorem ke:DU cx 125 aEH:=λ_ _=>by kernel_rfl
def zL(p q:Aa):IT:=
 .call 205 [p,I 0] λa=>.op (.ext 0) [a] λb=>.op (.ext 1) [a] λc=>.call 185 [p,b] λd=>.Di 200002 (.iq [d,I 4] λe=>.AJ e (.iq [d,I 2] λf=>.rn [f]) (.rn [ff])) (nx (λh=>.AJ (g h 0) (.rr [.tuple []]) (.Bk 207 [q] λj=>.nt [j] λk=>.Di 100028 (.AJ k (.rn [.int .i32 65533]) (.rn [q])) (nx (λm=>.call 208 [g m 0] λn=>.KW n λo=>.op .Tc [o] λs=>.BW p 0 λ_ _ u=>.call 186 [u,b] λw=>.ln [w] λy=>.iq [c,I 0] λz=>.Di 100041 (.AJ z (.call 165 [w,c] λa0=>.rn [a0]) (.rn [y])) (nx (λa1=>.Di 200010 (.ig [g a1 0,I 0] λa2=>.AJ a2 (.ib [g a1 0,I 1] λa5=>.ea 1 [w,a5] λa7=>.ld a7 λa8=>.call 185 [p,a8] λb0=>.ie [b0,I 5] λb1=>.rn [b1]) (.rn [ff])) (nx (λb2=>.AJ (g b2 0) (.BW p 0 λ_ _ b3=>.BW b3 0 λ_ _ b4=>.ib [g a1 0,I 1] λb5=>.ea 1 [w,b5] λb6=>.ld b6 λb7=>.ea 13 [b4,b7] λb8=>.fl b8 7 λ_ b9=>.op (.str .add) [b9,s] λc0=>.ea 13 [b4,b7] λc1=>.op (.Ec 7) [c1] λc2=>.store 1 c2 c0 (.rr [.tuple []])) (.BW p 0 λ_ c3 c4=>.op (.Bs [I 0,I 0,.slnil,I 0,I 0,S [],.slnil,S [],S [],S [],ff,I 0,I 0] [(0,1),(7,1)]) [I 5,s] λc5=>.call 210 [p,b] λc7=>.ld c3 λc8=>.same c4 c8 (.call 209 [c4,c7,c5] λd0=>.op (.ext 0) [d0] λd1=>.op (.ext 1) [d0] λ_=>.call 99 [p,b,d1,c] λ_=>.rr [.tuple []]))) λb2=>.rr [.tuple []])) λa1=>.rr [.tuple []])) λm=>.rr [.tuple []]))) λh=>.rr [.tuple []])
theorem T4:DU cx 126 zL:=λ_ _=>by kernel_rfl
def t127(p q r:Aa):IT:=
 .ie [r,I 0] λa=>.Di 100011 (.AJ a (.call 205 [p,I 0] λb=>.op (.ext 0) [b] λc=>.op (.ext 1) [b] λd=>.rn [c,d]) (.rn [r,I 0])) (nx (λe=>.call 185 [p,g e 0] λf=>.Di 200004 (.iq [f,I 1] λh=>.AJ h (.iq [f,I 2] λj=>.AJ j (.iq [f,I 4] λk=>.rn [k]) (.rn [ff])) (.rn [ff])) (nx (λm=>.AJ (g m 0) (.rr [.tuple []]) (.BW p 0 λ_ n o=>.op (.Bs [I 0,I 0,.slnil,I 0,I 0,S [],.slnil,S [],S [],S [],ff,I 0,I 0] [(0,1),(7,1)]) [I 6,q] λs=>.call 210 [p,g e 0] λu=>.ld n λw=>.same o w (.call 209 [o,u,s] λy=>.op (.ext 0) [y] λz=>.op (.ext 1) [y] λ_=>.call 99 [p,g e 0,z,g e 1] λ_=>.rr [.tuple []]))) λm=>.rr [.tuple []])) λe=>.rr [.tuple []])
theorem mK:LU cx 127 t127:=λ_ _ _=>by kernel_rfl
def aEI(p q r:Aa):IT:=
 .cells 12 q λa=>.call 123 [p,tX a] λ_=>.fa p 18 λ_ b=>.store 1 b r (.BW p 4 λ_ _ c=>.fa p 5 λ_ d=>.store 1 d c (.fa p 4 λ_ e=>.store 1 e (I 8) (.rr [.tuple []])))
theorem kf:LU cx 128 aEI:=λ_ _ _=>by kernel_rfl
def aAH(p:Aa):IT:=
 .BW p 2 λ_ _ a=>.op (.By 1) [S [112]] λb=>.call 211 [a,I 3,b] λc=>.AJ c (.BW p 2 λ_ _ d=>.call 212 [d,S [112],ff] λe=>.fa p 2 λ_ f=>.store 1 f e (.BW p 2 λ_ _ h=>.op (.By 1) [S [112]] λj=>.call 139 [h,j] λk=>.fa p 2 λ_ m=>.store 1 m k (.rr [.tuple []]))) (.rr [.tuple []])
theorem mL:GQ cx 129 aAH:=λ_=>by kernel_rfl
def aEJ(p:Aa):IT:=
 .BW p 3 λ_ _ a=>.ln [a] λb=>.loop 1 [b] (λc=>.ig [g c 0,I 0] λd=>.AJ d (.BW p 3 λ_ _ e=>.ib [g c 0,I 1] λf=>.ea 3 [e,f] λh=>.load (some 3) h λj=>.call 213 [p,j] λk=>.nt [k] λm=>.AJ m (.ib [g c 0,I 1] λn=>.rn [n]) (.rx 0 [g c 0])) (.rx 0 [g c 0])) (lx 0 (λo=>.BW p 3 λ_ _ s=>.Hw 3 48 .slnil s λu=>.loop 4 [g o 0] (λw=>.ln [u] λy=>.il [g w 0,y] λz=>.AJ z (.ea 3 [u,g w 0] λa0=>.fl a0 1 λ_ a1=>.ea 3 [u,g w 0] λa2=>.fl a2 2 λ_ a5=>.op (.Bs [I 0,S [],ff,S [],ff,S [],ff,ff,.slnil,ff,S [],.int .i32 0] [(0,1),(1,1),(8,1)]) [I 2,a1,a5] λa7=>.call 123 [p,a7] λa8=>.ea 3 [u,g w 0] λb0=>.op (.Ec 0) [b0] λb1=>.store 1 b1 a8 (.ia [g w 0,I 1] λb2=>.rn [b2])) (.rx 2 [g w 0])) (lx 2 (λb3=>.fa p 3 λ_ b4=>.store 1 b4 u (.Hy 3 p (.rr [.tuple []]))) λb3=>.Hy 3 p (.rr [.tuple []]))) λo=>.Hy 3 p (.rr [.tuple []]))
theorem kg:GQ cx 130 aEJ:=λ_=>by kernel_rfl
def aEK(p q:Aa):IT:=
 .BW p 2 λ_ _ a=>.ln [a] λb=>.ib [b,I 1] λc=>.loop 1 [c] (λd=>.ih [g d 0,I 0] λe=>.AJ e (.BW p 2 λ_ _ f=>.ea 4 [f,g d 0] λh=>.load (some 4) h λj=>.cells 4 j λk=>.op (.By 1) [q] λm=>.call 214 [a4 k,m] λn=>.AJ n (.BW p 2 λ_ _ o=>.call 212 [o,q,ff] λs=>.fa p 2 λ_ u=>.store 1 u s (.BW p 2 λ_ _ w=>.call 215 [w,g k 0] λy=>.fa p 2 λ_ z=>.store 1 z y (.rr [g d 0]))) (.Bk 216 [g k 1,g k 2] λa0=>.AJ a0 (.rr [g d 0]) (.ib [g d 0,I 1] λa1=>.rn [a1]))) (.rx 0 [g d 0])) (lx 0 (λa2=>.rr [.tuple []]) λa2=>.rr [.tuple []])
theorem kh:DU cx 131 aEK:=λ_ _=>by kernel_rfl
def aAI(p q:Aa):IT:=
 .op (.By 1) [q] λa=>.call 217 [p] λb=>.call 214 [b,a] λc=>.AJ c (.BW p 3 λ_ d e=>.call 217 [p] λf=>.ld d λh=>.same e h (.op (.part 0 none) [f] λj=>.call 218 [e,j] λk=>.il [k,I 0] λm=>.AJ m (.BW p 2 λ_ _ n=>.call 219 [n] λo=>.fa p 2 λ_ s=>.store 1 s o (.rr [.tuple []])) (.loop 3 [I 1] (λu=>.ik [g u 0,I 8] λw=>.AJ w (.call 220 [p,q] λy=>.nt [y] λz=>.AJ z (.rr [g u 0]) (.ia [g u 0,I 1] λa0=>.rn [a0])) (.rx 0 [g u 0])) (lx 0 (λa1=>.rr [.tuple []]) λa1=>.rr [.tuple []])))) (.loop 3 [I 1] (λa2=>.ik [g a2 0,I 8] λa5=>.AJ a5 (.call 220 [p,q] λa7=>.nt [a7] λa8=>.AJ a8 (.rr [g a2 0]) (.ia [g a2 0,I 1] λb0=>.rn [b0])) (.rx 0 [g a2 0])) (lx 0 (λb1=>.rr [.tuple []]) λb1=>.rr [.tuple []]))
theorem mM:DU cx 132 aAI:=λ_ _=>by kernel_rfl
def aAJ(p q r:Aa):IT:=
 .cells 12 q λa=>.call 185 [p,r] λb=>.iq [b,I 4] λc=>.AJ c (.rr [.tuple []]) (.BW p 0 λ_ _ d=>.BW d 0 λ_ _ e=>.ea 13 [e,r] λf=>.fl f 6 λ_ h=>.op (.append 3 40) [.slnil,h] λj=>.loop 4 [j,I 0] (λk=>.ln [g a 8] λm=>.il [g k 1,m] λn=>.AJ n (.ea 3 [g a 8,g k 1] λo=>.fl o 1 λ_ s=>.ea 3 [g a 8,g k 1] λu=>.fl u 2 λ_ w=>.op (.Bs [I 0,S [],S []] [(1,1),(2,1)]) [s,w] λy=>.op (.By 3) [y] λz=>.op (.append 3 40) [g k 0,z] λa0=>.ia [g k 1,I 1] λa1=>.rn [a0,a1]) (.rx 0 [g k 0,g k 1])) (lx 0 (λa2=>.BW p 0 λ_ _ a5=>.call 221 [a5,r,g a2 0] λ_=>.rr [.tuple []]) λa2=>.rr [.tuple []]))
theorem mN:LU cx 133 aAJ:=λ_ _ _=>by kernel_rfl
def ki(p:Aa):IT:=
 .BW p 2 λ_ _ a=>.call 222 [a,S aSC] λb=>.il [b,I 0] λc=>.AJ c (.rr [.tuple []]) (.BW p 2 λ_ _ d=>.call 212 [d,S [],tt] λe=>.fa p 2 λ_ f=>.store 1 f e (.BW p 2 λ_ _ h=>.op (.By 1) [S aSC] λj=>.call 139 [h,j] λk=>.fa p 2 λ_ m=>.store 1 m k (.BW p 3 λ_ _ n=>.call 138 [n] λo=>.fa p 3 λ_ s=>.store 1 s o (.BW p 6 λ_ _ u=>.ln [u] λw=>.ig [w,I 0] λy=>.AJ y (.BW p 6 λ_ _ z=>.BW p 6 λ_ _ a0=>.ln [a0] λa1=>.ib [a1,I 1] λa2=>.op (.Hv 1 false false true) [z,a2] λa5=>.op (.append 1 8) [.slnil,a5] λa7=>.fa p 6 λ_ a8=>.store 1 a8 a7 (.call 101 [p] λ_=>.rr [.tuple []])) (.call 101 [p] λ_=>.rr [.tuple []])))))
theorem YZ:GQ cx 134 ki:=λ_=>by kernel_rfl
end Go.Am
