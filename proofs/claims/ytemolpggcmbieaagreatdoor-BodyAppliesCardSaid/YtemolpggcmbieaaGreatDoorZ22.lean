/- Lemmas -/
import Derived.Test.YtemolpggcmbieaaGreatDoorZ9
import Derived.Test.YtemolpggcmbieaaGreatDoorZ18
set_option linter.all false
namespace Go.Am
open Go
def aAU(p q:Aa):IT:=
 .BT p 0 λ_ _ a=>.ca 101 [a,q] λb=>.op (.ext 0) [b] λc=>.op (.ext 1) [b] λ_=>.cells 13 c λd=>.cells 13 (mz d) λe=>.rr [mz e]
def tK:ES cx 105 aAU:=λ_ _=>AF
def aAV(p q:Aa):IT:=
 .ln [p] λa=>.loop 2 [I 0,I 0] (λb=>.il [g b 1,a] λc=>.AH c (.ea 1 [p,g b 1] λd=>.ld d λe=>.ie [q,e] λf=>.AH f (.rr [g b 1,g b 1]) (.ia [g b 1,I 1] λh=>.rn [g b 0,h])) (.rx 0 [g b 0,g b 1])) (lx 0 (λj=>.rr [I (-1)]) λj=>.rr [g j 0])
def tL:ES cx 106 aAV:=λ_ _=>AF
def aAW(p q:Aa):IT:=
 .op (.conv .u32) [q] λa=>.ik [a,.int .u32 127] λb=>.AH b (.op (.conv .u8) [q] λc=>.op (.Cl 1) [c] λd=>.FQ 1 1 p d λe=>.rr [e]) (.ca 200 [p,q] λf=>.rr [f])
def tM:ES cx 107 aAW:=λ_ _=>AF
def aAX(p q r:Aa):IT:=
 .op (.Cl 1) [q] λa=>.ca 143 [p,a] λb=>.iq [b,I 0] λc=>.AH c (.rr [b]) (.ca 96 [p,q] λd=>.fa d 0 λ_ e=>.fl e 0 λ_ f=>.iq [f,I 5] λh=>.AH h (.fa d 0 λ_ j=>.fl j 0 λ_ k=>.iq [k,I 6] λm=>.AH m (.rr [I 9]) (.fa d 0 λ_ n=>.op (.Fg 7) [n] λo=>.store 1 o r (.rr [I 0]))) (.fa d 0 λ_ s=>.op (.Fg 7) [s] λu=>.store 1 u r (.rr [I 0])))
def tN:Q3 cx 108 aAX:=λ_ _ _=>AF
def t109(p q r:Aa):IT:=
 .op (.BV [I 0,I 0,.slnil,I 0,I 0,S [],.slnil,S [],S [],S [],ff,I 0,I 0] [(0,1),(7,1)]) [I 5,r] λa=>.ca 142 [p,q,a] λb=>.op (.ext 0) [b] λc=>.op (.ext 1) [b] λd=>.rr [.tuple [c,d]]
def tO:Q3 cx 109 t109:=λ_ _ _=>AF
def aAY(p q r:Aa):IT:=
 .op (.BV [I 0,I 0,.slnil,I 0,I 0,S [],.slnil,S [],S [],S [],ff,I 0,I 0] [(0,1),(7,1)]) [I 6,r] λa=>.ca 142 [p,q,a] λb=>.op (.ext 0) [b] λc=>.op (.ext 1) [b] λd=>.rr [.tuple [c,d]]
def tP:Q3 cx 110 aAY:=λ_ _ _=>AF
def aAZ(p q r:Aa):IT:=
 .cells 1 r λa=>.ca 201 [p,q,.func (.func 202) [] [.BW [g a 0]]] λb=>.rr [b]
def tQ:Q3 cx 111 aAZ:=λ_ _ _=>AF
def aA0(p q:Aa):IT:=
 .cells 1 q λa=>.ca 132 [p,.func (.func 203) [] [.BW [g a 0]],.func (.func 133) [] []] λb=>.rr [b]
def tR:ES cx 112 aA0:=λ_ _=>AF
def aA1(p q:Aa):IT:=
 .cells 1 q λa=>.ca 205 [p,.func (.func 206) [] [.BW [g a 0]]] λb=>.rr [b]
def tS:ES cx 113 aA1:=λ_ _=>AF
def qu(p:Aa):IT:=
 .op (.Ff false .sl) [p,.slnil] λa=>.AH a (.rr [.slnil]) (.op (.Cl 3) [] λb=>.Jk 3 48 b p λc=>.rr [c])
def Vr:FL cx 114 qu:=λ_=>AF
def aA2(p:Aa):IT:=
 .cells 3 p λa=>.op (.BV [I 0,S [],ff,S [],ff,S [],ff,ff,.slnil,ff,S [],.int .i32 0] [(0,1),(1,1),(8,1)]) [I 2,g a 1,g a 2] λb=>.cells 12 b λc=>.rr [Er c]
def tT:FL cx 115 aA2:=λ_=>AF
def aA3(p:Aa):IT:=
 .op (.Ru false) [p,.ptr none] λa=>.AH a (.rr [I 0]) (.BT p 0 λ_ _ b=>.ln [b] λc=>.rr [c])
def tU:FL cx 116 aA3:=λ_=>AF
def aA4(p q:Aa):IT:=
 .il [q,I 0] λa=>.AH a (.op (.BV [I 0,I 0,S [],ff] []) [] λb=>.cells 4 b λc=>.rr [a4 c]) (.ca 116 [p] λd=>.ih [q,d] λe=>.AH e (.op (.BV [I 0,I 0,S [],ff] []) [] λf=>.cells 4 f λh=>.rr [a4 h]) (.BT p 0 λ_ _ j=>.ea 4 [j,q] λk=>.load (some 4) k λm=>.cells 4 m λn=>.rr [a4 n]))
def tV:ES cx 117 aA4:=λ_ _=>AF
def R_(p q:Aa):IT:=
 .cells 1 q λa=>.ca 113 [p,g a 0] λb=>.il [b,I 0] λc=>.AH c (.rr [I 0]) (.ca 132 [p,.func (.func 133) [] [],.func (.func 207) [] [.BW [g a 0]]] λd=>.rr [d])
def cG:ES cx 118 R_:=λ_ _=>AF
def aA5(p q:Aa):IT:=
 .ie [p,I 3] λa=>.AH a (.se [q,S aTK] λb=>.AH b (.rr [tt]) (.BG 208 [p,q] λc=>.rr [c])) (.ie [p,I 2] λd=>.AH d (.se [q,S aVa] λe=>.AH e (.rr [tt]) (.se [q,S aT5] λf=>.AH f (.rr [tt]) (.se [q,S aTJ] λh=>.rr [h]))) (.ie [p,I 1] λj=>.AH j (swv q (.rr [tt]) (.rr [ff]) R4) (.rr [ff])))
def tW:ES cx 119 aA5:=λ_ _=>AF
def aA6(p:Aa):IT:=
 .ca 83 [p] λa=>.nt [a] λb=>.AH b (.op (.BV [I 0,I 0,S [],ff] []) [] λc=>.cells 4 c λd=>.rr [a4 d]) (.fa p 2 λ_ e=>.ca 130 [e] λf=>.cells 4 f λh=>.rr [a4 h])
def tX:FL cx 120 aA6:=λ_=>AF
def aA7(p q:Aa):IT:=
 .op (.Ru false) [p,.ptr none] λa=>.AH a (.rr [I (-1)]) (.ie [q,I 0] λb=>.AH b (.rr [I (-1)]) (.BT p 0 λ_ _ c=>.ln [c] λd=>.ib [d,I 1] λe=>.loop 4 [I 0,e] (λf=>.ih [g f 1,I 0] λh=>.AH h (.BT p 0 λ_ _ j=>.ea 3 [j,g f 1] λk=>.fl k 0 λ_ m=>.ie [m,q] λn=>.AH n (.rr [g f 1,g f 1]) (.ib [g f 1,I 1] λo=>.rn [g f 0,o])) (.rx 0 [g f 0,g f 1])) (lx 0 (λs=>.rr [I (-1)]) λs=>.rr [g s 0])))
def tY:ES cx 121 aA7:=λ_ _=>AF
def jJ(p q:Aa):IT:=
 .fa p 3 λ_ a=>.ca 209 [a,q] λb=>.il [b,I 0] λc=>.AH c (.ca 48 [p,q] λ_=>.rr [ff]) (.fa p 3 λ_ d=>.fl d 0 λ_ e=>.ea 3 [e,b] λf=>.load (some 3) f λh=>.op (.BV [I 0,S [],.slnil,I 0,I 0,I 0,I 0,S [],ff,I 0,I 0,S [],ff,I 0] [(0,3),(3,1),(4,1)]) [h,b,b] λj=>.alloc 14 j λk=>.fa k 0 λ_ m=>.fl m 0 λ_ n=>.fa p 2 λ_ o=>.ca 113 [o,n] λs=>.il [s,I 0] λu=>.AH u (.ca 210 [k,p,b] λ_=>.rr [ff]) (.ie [s,I 0] λw=>.AH w (.rr [ff]) (.fa p 2 λ_ y=>.ca 211 [y,I 1,n] λz=>.nt [z] λa0=>.AH a0 (.rr [ff]) (.fa p 2 λ_ a1=>.ca 212 [a1,n] λa2=>.il [a2,I 0] λa5=>.AH a5 (.fa p 2 λ_ a7=>.ca 118 [a7,n] λ_=>.ca 210 [k,p,b] λ_=>.rr [ff]) (.fa p 2 λ_ a8=>.ib [s,I 1] λb0=>.fa p 2 λ_ b1=>.ca 117 [a8,b0] λb2=>.ca 117 [b1,a2] λb3=>.fa k 5 λ_ b4=>.store 4 b4 b2 (.fa k 9 λ_ b5=>.store 4 b5 b3 (.fa k 9 λ_ b6=>.fl b6 0 λ_ b7=>.fa k 13 λ_ b8=>.store 1 b8 b7 (.ca 213 [p,k,s,a2] λ_=>.fa k 5 λ_ b9=>.fl b9 0 λ_ c0=>.ca 104 [p,c0] λc1=>.op (.ext 0) [c1] λc2=>.op (.ext 1) [c1] λc3=>.BT k 13 λ_ _ c4=>.ca 97 [p,c4,c2,c3] λ_=>.fa k 0 λ_ c5=>.load (some 3) c5 λc6=>.fa k 9 λ_ c7=>.fl c7 0 λc8 c9=>.ca 115 [c6] λd0=>.ld c8 λd1=>.same c9 d1 (.ca 59 [p,d0,I 1,c9] λd2=>.cells 4 d2 λd3=>.BT p 0 λ_ _ d4=>.fa k 9 λ_ d5=>.fl d5 0 λ_ d6=>.ca 189 [d4,d6] λd7=>.ln [d7] λd8=>.loop 25 [I 0] (λd9=>.il [g d9 0,d8] λe0=>.AH e0 (.ea 1 [d7,g d9 0] λe1=>.ld e1 λe2=>.ca 97 [p,e2,g d3 0,I 0] λ_=>.ia [g d9 0,I 1] λe3=>.rn [e3]) (.rx 0 [g d9 0])) (lx 0 (λe4=>.fa k 9 λ_ e5=>.fl e5 0 λ_ e6=>.ca 97 [p,g d3 0,e6,I 0] λ_=>.BT k 3 λ_ _ e7=>.ca 210 [k,p,e7] λ_=>.fa p 3 λ_ e8=>.fa k 0 λ_ e9=>.fl e9 1 λ_ f0=>.fa k 0 λ_ f1=>.fl f1 2 λ_ f2=>.op (.BV [I 0,S [],.slnil] [(0,1),(1,1),(2,1)]) [g d3 0,f0,f2] λf3=>.BT k 4 λ_ _ f4=>.ca 214 [e8,f3,f4] λ_=>.fa p 2 λ_ f5=>.ca 151 [f5,n] λ_=>.fa p 2 λ_ f6=>.fa p 2 λ_ f7=>.fa k 9 λ_ f8=>.fl f8 0 λ_ f9=>.ca 113 [f7,f9] λh0=>.ia [h0,I 1] λh1=>.ca 215 [f6,a4 d3,h1] λ_=>.rr [tt]) λe4=>.rr [ff]))))))))))
def N8:ES cx 122 jJ:=λ_ _=>AF
def aA8(p q r:Aa):IT:=
 .cells 4 q λa=>.ca 216 [] λb=>.ln [b] λc=>.loop 2 [I 0,ff,I 0] (λd=>.il [g d 2,c] λe=>.AH e (.ea 2 [b,g d 2] λf=>.load (some 2) f λh=>.cells 2 h λj=>.op (.Cl 1) [g j 0] λk=>.ca 100 [a4 a,k] λm=>.AH m (.rr [g j 1,tt,g d 2]) (.ia [g d 2,I 1] λn=>.rn [g d 0,g d 1,n])) (.rx 0 [g d 0,g d 1,g d 2])) (lx 0 (λo=>.op (.Cl 1) [S aT9] λs=>.ca 100 [a4 a,s] λu=>.AH u (.ca 217 [p,r] λw=>.rr [.tuple [w,tt]]) (.F9 200009 (.op (.Cl 1) [S [116,100],S [116,104]] λy=>.ca 100 [a4 a,y] λz=>.AH z (.ig [r,I 0] λa0=>.rn [a0]) (.rn [ff])) (λx a1=>match x with| .normal=>.AH (g a1 0) (.rr [.tuple [I 15,tt]]) (.op (.Cl 1) [S aTv] λa2=>.ca 100 [a4 a,a2] λa5=>.AH a5 (.BT p 6 λ_ _ a7=>.ln [a7] λa8=>.ig [a8,I 0] λb0=>.AH b0 (.BT p 6 λ_ _ b1=>.ib [a8,I 1] λb2=>.ea 1 [b1,b2] λb3=>.ld b3 λb4=>.rr [.tuple [b4,tt]]) (.rr [.tuple [I 7,tt]])) (.F9 200016 (.op (.Cl 1) [S aTx] λb5=>.ca 100 [a4 a,b5] λb6=>.AH b6 (.ig [r,I 0] λb7=>.rn [b7]) (.rn [ff])) (λx b8=>match x with| .normal=>.AH (g b8 0) (.rr [.tuple [I 4,tt]]) (.op (.Cl 1) [S aTu] λb9=>.ca 100 [a4 a,b9] λc1=>.AH c1 (.BT p 7 λ_ _ c2=>.ie [c2,I 0] λc4=>.AH c4 (.rr [.tuple [I 3,tt]]) (.rr [.tuple [I 6,tt]])) (.ie [r,I 0] λc5=>.rr [.tuple [I 7,c5]]))| .exit i=>if i=2 then .ie [r,I 0] λc6=>.rr [.tuple [I 7,c6]] else .fail| .ret=>.rr [.tuple [g o 0,g o 1]])))| .exit i=>if i=2 then .ie [r,I 0] λc8=>.rr [.tuple [I 7,c8]] else .fail| .ret=>.rr [.tuple [g o 0,g o 1]]))) λo=>.rr [.tuple [g o 0,g o 1]])
def tZ:Q3 cx 123 aA8:=λ_ _ _=>AF
def S_(p q:Aa):IT:=
 .ca 192 [p,q] λa=>.ih [a,I 0] λb=>.rr [b]
def cH:ES cx 124 S_:=λ_ _=>AF
def aA9(p q:Aa):IT:=
 .cells 3 p λa=>.ie [g a 0,I 0] λb=>.AH b (.fl q 1 λ_ c=>.se [g a 1,c] λd=>.rr [d]) (.rr [ff])
def uA:ES cx 125 aA9:=λ_ _=>AF
def aBa(p q r:Aa):IT:=
 .op (.Cl 1) [q] λa=>.ca 143 [p,a] λb=>.iq [b,I 0] λc=>.AH c (.rr [b]) (.ca 96 [p,q] λd=>.fa d 0 λ_ e=>.fl e 0 λ_ f=>.iq [f,I 4] λh=>.AH h (.rr [I 9]) (.ca 218 [r] λj=>.op (.ext 0) [j] λk=>.op (.ext 1) [j] λm=>.nt [m] λn=>.AH n (.rr [I 2]) (.fa d 0 λ_ o=>.op (.Fg 6) [o] λs=>.store 1 s k (.rr [I 0]))))
def uB:Q3 cx 126 aBa:=λ_ _ _=>AF
def t127(p q:Aa):IT:=
 .cells 1 q λa=>.ca 205 [p,.func (.func 219) [] [.BW [g a 0]]] λb=>.rr [b]
def uC:ES cx 127 t127:=λ_ _=>AF
def aBb(p:Aa):IT:=
 .ca 132 [p,.func (.func 220) [] [],.func (.func 133) [] []] λa=>.rr [a]
def uD:FL cx 128 aBb:=λ_=>AF
def aBc(p q r:Aa):IT:=
 .cells 3 q λa=>.op (.PQ 3 false false true) [p,r] λb=>.op (.append 3 48) [.slnil,b] λc=>.op (.Cl 3) [a3 a] λd=>.op (.append 3 48) [c,d] λe=>.op (.PQ 3 false true false) [p,r] λf=>.op (.append 3 48) [e,f] λh=>.rr [h]
def uE:Q3 cx 129 aBc:=λ_ _ _=>AF
def aBd(p:Aa):IT:=
 .ca 116 [p] λa=>.ib [a,I 1] λb=>.ca 117 [p,b] λc=>.cells 4 c λd=>.rr [a4 d]
def uF:FL cx 130 aBd:=λ_=>AF
def aBe(p:Aa):IT:=
 .BT p 0 λ_ _ a=>.ln [a] λb=>.loop 2 [b] (λc=>.ig [g c 0,I 0] λd=>.AH d (.BT p 0 λ_ _ e=>.ib [g c 0,I 1] λf=>.ea 3 [e,f] λh=>.fl h 0 λ_ j=>.iq [j,I 0] λk=>.AH k (.ib [g c 0,I 1] λm=>.rn [m]) (.rx 0 [g c 0])) (.rx 0 [g c 0])) (lx 0 (λn=>.rr [g n 0]) λn=>.rr [I 0])
def uG:FL cx 131 aBe:=λ_=>AF
def aBf(p q r:Aa):IT:=
 .loop 2 [I 0] (λa=>.ca 116 [p] λb=>.ig [b,I 1] λc=>.AH c (.ca 130 [p] λd=>.D4 q [d] λe=>.nt [e] λf=>.AH f (.ia [g a 0,I 1] λh=>.ca 56 [p] λj=>.D4 r [j] λk=>.AH k (.rx 0 [h]) (.rn [h])) (.rx 0 [g a 0])) (.rx 0 [g a 0])) (lx 0 (λm=>.rr [g m 0]) λm=>.rr [I 0])
def uH:Q3 cx 132 aBf:=λ_ _ _=>AF
def aBg(p:Aa):IT:=
 .cells 4 p λ_=>.rr [ff]
def uI:FL cx 133 aBg:=λ_=>AF
def aBh(p q:Aa):IT:=
 .cells 4 p λa=>.ld q λb=>.ca 135 [a4 a,b] λc=>.rr [c]
def uJ:ES cx 134 aBh:=λ_ _=>AF
def aBi(p q:Aa):IT:=
 .cells 4 p λa=>.ie [g a 1,I 1] λb=>.AH b (.ca 194 [q,g a 2] λc=>.rr [c]) (.rr [ff])
def uK:ES cx 135 aBi:=λ_ _=>AF
def aBj(p q:Aa):IT:=
 .MY λa=>.op (.BV [I 0,S [],S []] [(0,1),(1,1)]) [I 4,S aUZ] λb=>.Hu a (S aUo) b (.op (.BV [I 0,S [],S []] [(0,1),(1,1)]) [I 4,S aUW] λc=>.Hu a (S aUm) c (.op (.BV [I 0,S [],S []] [(0,1),(1,1)]) [I 4,S aVo] λd=>.Hu a (S aUu) d (.op (.BV [I 0,S [],S []] [(0,1),(1,1)]) [I 4,S aVp] λe=>.Hu a (S aUv) e (.op (.BV [I 0,S [],S []] [(0,1),(1,1)]) [I 4,S aVq] λf=>.Hu a (S aUw) f (.op (.BV [I 0,S [],S []] [(0,1),(1,1)]) [I 4,S aTJ] λh=>.Hu a (S aUq) h (.op (.BV [I 0,S [],S []] [(0,1),(1,1)]) [I 4,S aUz] λj=>.Hu a (S aUx) j (.op (.BV [I 0,S [],S []] [(0,1),(1,1)]) [I 5,S [108,97,110,103]] λk=>.Hu a (S aUN) k (.op (.BV [I 0,S [],S []] [(0,1),(1,1)]) [I 5,S aVi] λm=>.Hu a (S aUE) m (.op (.BV [I 0,S [],S []] [(0,1),(1,1)]) [I 6,S aUs] λn=>.Hu a (S aUs) n (.op (.BV [I 0,S [],S []] [(0,1),(1,1)]) [I 6,S aVc] λo=>.Hu a (S aUr) o (.ln [q] λs=>.loop 4 [.slnil,I 0] (λu=>.il [g u 1,s] λw=>.AH w (.ea 3 [q,g u 1] λy=>.load (some 3) y λz=>.cells 3 z λa0=>.op (.BV [I 0,S [],S []] [(1,1),(2,1)]) [g a0 1,g a0 2] λa1=>.cells 3 a1 λa2=>.ie [p,I 2] λa5=>.F9 100036 (.AH a5 (.BG 222 [g a0 1] λa7=>.cells 1 a7 λa8=>.rn [.agg [g a2 0,g a8 0,g a2 2]]) (.F9 200009 (.ie [p,I 3] λb0=>.AH b0 (.se [g a0 1,S aUD] λb1=>.rn [b1]) (.rn [ff])) (λx b2=>match x with| .normal=>.F9 100043 (.AH (g b2 0) (.cells 1 (S aUF) λb3=>.rn [.agg [g a2 0,g b3 0,g a2 2]]) (.rn [a3 a2])) (λx b4=>.cells 3 (g b4 0) λb5=>.ret x [a3 b5])| .exit i=>.ret (.exit i) [a3 a2]| .ret=>.rr [a3 a2]))) (λx b6=>.cells 3 (g b6 0) λb7=>match x with| .normal=>.LL (.agg [I 0,S [],S []]) true a (g b7 1) λb8=>.op (.ext 0) [b8] λb9=>.op (.ext 1) [b8] λc0=>.cells 3 b9 λc1=>.F9 200012 (.AH c0 (.ie [p,I 2] λc2=>.AH c2 (.rn [tt]) (.ie [p,I 3] λc3=>.rn [c3])) (.rn [ff])) (λx c4=>match x with| .normal=>.F9 100067 (.AH (g c4 0) (.cells 1 (g c1 0) λc5=>.cells 1 (g c1 1) λc6=>.rn [.agg [g c5 0,g c6 0,g b7 2]]) (.rn [a3 b7])) (λx c7=>.cells 3 (g c7 0) λc8=>match x with| .normal=>.op (.Cl 3) [a3 c8] λc9=>.op (.append 3 40) [g u 0,c9] λd0=>.ia [g u 1,I 1] λd1=>.rn [d0,d1]| .exit i=>if i=1 then .ia [g u 1,I 1] λd2=>.rn [g u 0,d2] else .ret (.exit i) [g u 0,g u 1]| .ret=>.rr [g u 0,g u 1])| .exit i=>if i=1 then .ia [g u 1,I 1] λd3=>.rn [g u 0,d3] else .ret (.exit i) [g u 0,g u 1]| .ret=>.rr [g u 0,g u 1])| .exit i=>if i=2 then .LL (.agg [I 0,S [],S []]) true a (g b7 1) λd4=>.op (.ext 0) [d4] λd5=>.op (.ext 1) [d4] λd6=>.cells 3 d5 λd7=>.F9 200012 (.AH d6 (.ie [p,I 2] λd8=>.AH d8 (.rn [tt]) (.ie [p,I 3] λd9=>.rn [d9])) (.rn [ff])) (λx e0=>match x with| .normal=>.F9 100067 (.AH (g e0 0) (.cells 1 (g d7 0) λe1=>.cells 1 (g d7 1) λe2=>.rn [.agg [g e1 0,g e2 0,g b7 2]]) (.rn [a3 b7])) (λx e3=>.cells 3 (g e3 0) λe4=>match x with| .normal=>.op (.Cl 3) [a3 e4] λe5=>.op (.append 3 40) [g u 0,e5] λe6=>.ia [g u 1,I 1] λe7=>.rn [e6,e7]| .exit i=>if i=1 then .ia [g u 1,I 1] λe8=>.rn [g u 0,e8] else .ret (.exit i) [g u 0,g u 1]| .ret=>.rr [g u 0,g u 1])| .exit i=>if i=1 then .ia [g u 1,I 1] λe9=>.rn [g u 0,e9] else .ret (.exit i) [g u 0,g u 1]| .ret=>.rr [g u 0,g u 1]) else if i=1 then .ia [g u 1,I 1] λf0=>.rn [g u 0,f0] else .ret (.exit i) [g u 0,g u 1]| .ret=>.rr [g u 0,g u 1])) (.rx 0 [g u 0,g u 1])) (lx 0 (λf1=>.rr [g f1 0]) λf1=>.rr [.slnil]))))))))))))
def uL:ES cx 136 aBj:=λ_ _=>AF
def aBk(p:Aa):IT:=
 .BG 223 [p,S aTq] λa=>.rr [a]
def uM:FL cx 137 aBk:=λ_=>AF
def T_(p q r u w:Aa):IT:=
 .ca 141 [p,q] λa=>.iq [a,I 0] λb=>.AH b (.rr [.tuple [I 0,a]]) (.ca 218 [w] λc=>.op (.ext 0) [c] λd=>.op (.ext 1) [c] λe=>.nt [e] λf=>.AH f (.rr [.tuple [I 0,I 2]]) (.op (.Cl 1) [r] λh=>.ca 224 [h] λj=>.nt [j] λk=>.AH k (.rr [.tuple [I 0,I 2]]) (.op (.BV [I 0,I 0,.slnil,I 0,I 0,S [],.slnil,S [],S [],S [],ff,I 0,I 0] [(0,1),(3,1),(4,1),(5,1),(6,1)]) [I 4,q,r,u,d] λm=>.ca 95 [p,m] λn=>.ca 96 [p,n] λo=>.ca 225 [o] λs=>.AH s (.ca 226 [p,q] λy=>.op (.BV [I 0,I 0,.slnil,I 0,I 0,S [],.slnil,S [],S [],S [],ff,I 0,I 0] [(0,1),(12,1),(3,1)]) [I 2,n,y] λz=>.ca 95 [p,z] λa0=>.ca 96 [p,n] λa1=>.fa a1 0 λ_ a2=>.op (.Fg 11) [a2] λa5=>.store 1 a5 a0 (.rr [.tuple [n,I 0]])) (.rr [.tuple [n,I 0]]))))
def cI:Tq5 cx 138 T_:=λ_ _ _ _ _=>AF
def U_(p q:Aa):IT:=
 .ca 105 [p,q] λa=>.cells 13 a λb=>.iq [g b 11,I 0] λc=>.AH c (.ca 105 [p,g b 11] λd=>.cells 13 d λe=>.iq [g e 3,I 0] λf=>.AH f (.rr [g e 3]) (.BT p 1 λ_ _ h=>.rr [h])) (.iq [g b 3,I 0] λj=>.AH j (.rr [g b 3]) (.BT p 1 λ_ _ k=>.rr [k]))
def cJ:ES cx 139 U_:=λ_ _=>AF
def V_(p:Aa):IT:=
 .ca 228 [.int .i32 9,.int .i32 10] λa=>.ca 228 [.int .i32 12,.int .i32 13] λb=>.ca 228 [.int .i32 32,.int .i32 32] λc=>.op (.Cl 1) [a,b,c] λd=>.ca 227 [d] λe=>.D4 e [p] λf=>.rr [f]
def cK:FL cx 140 V_:=λ_=>AF
def aBl(p q:Aa):IT:=
 .op (.Cl 1) [q] λa=>.ca 143 [p,a] λb=>.iq [b,I 0] λc=>.AH c (.rr [b]) (.ca 96 [p,q] λd=>.fa d 0 λ_ e=>.fl e 0 λ_ f=>.iq [f,I 1] λh=>.AH h (.rr [I 9]) (.rr [I 0]))
def uN:ES cx 141 aBl:=λ_ _=>AF
def W_(p q r:Aa):IT:=
 .cells 13 r λa=>.ca 141 [p,q] λb=>.iq [b,I 0] λc=>.AH c (.rr [.tuple [I 0,b]]) (.cells 1 q λd=>.ca 95 [p,.agg [g a 0,g a 1,g a 2,g d 0,g a 4,g a 5,g a 6,g a 7,g a 8,g a 9,g a 10,g a 11,g a 12]] λe=>.rr [.tuple [e,I 0]])
def cL:Q3 cx 142 W_:=λ_ _ _=>AF
def aBm(p q:Aa):IT:=
 .op (.Ru false) [p,.ptr none] λa=>.AH a (.rr [I 1]) (.ln [q] λb=>.loop 4 [I 0,I 0] (λc=>.il [g c 1,b] λd=>.AH d (.ea 1 [q,g c 1] λe=>.ld e λf=>.ca 92 [p,f] λh=>.nt [h] λj=>.AH j (.rr [I 3,g c 1]) (.ia [g c 1,I 1] λk=>.rn [g c 0,k])) (.rx 0 [g c 0,g c 1])) (lx 0 (λm=>.rr [I 0]) λm=>.rr [g m 0]))
def uO:ES cx 143 aBm:=λ_ _=>AF
def X_(p q:Aa):IT:=
 .ca 96 [p,q] λa=>.fa a 0 λ_ b=>.fl b 1 λ_ c=>.ie [c,I 0] λd=>.AH d (.rr [.tuple []]) (.fa a 0 λ_ e=>.fl e 1 λ_ f=>.ca 96 [p,f] λh=>.fa h 0 λ_ j=>.fl j 2 λ_ k=>.ca 106 [k,q] λm=>.fa h 0 λ_ n=>.fl n 2 λ_ o=>.ia [m,I 1] λs=>.ca 230 [o,m,s] λu=>.fa h 0 λ_ w=>.op (.Fg 2) [w] λy=>.store 1 y u (.fa a 0 λ_ z=>.op (.Fg 1) [z] λa0=>.store 1 a0 i0 (.rr [.tuple []])))
def cM:ES cx 145 X_:=λ_ _=>AF
def aBn(p q:Aa):IT:=
 .BG 233 [p] λa=>.BG 233 [q] λb=>.se [a,b] λc=>.rr [c]
def uP:ES cx 147 aBn:=λ_ _=>AF
def t148(p q:Aa):IT:=
 .fl q 3 λ_ a=>.lt [a] λb=>.lt [p] λc=>.ih [b,c] λd=>.AH d (.fl q 3 λ_ e=>.lt [p] λf=>.op (.PQ 0 true false true) [e,f] λh=>.BG 147 [h,p] λj=>.rr [j]) (.rr [ff])
def uQ:ES cx 148 t148:=λ_ _=>AF
def aBo(p q:Aa):IT:=
 .ca 234 [p,q] λa=>.ih [a,I 0] λb=>.rr [b]
def uR:ES cx 149 aBo:=λ_ _=>AF
def Y_(p q:Aa):IT:=
 .ca 235 [q] λa=>.ca 194 [a,p] λb=>.rr [b]
def cN:ES cx 150 Y_:=λ_ _=>AF
def Z_(p q:Aa):IT:=
 .ca 113 [p,q] λa=>.il [a,I 1] λb=>.AH b (.rr [ff]) (.BT p 0 λ_ _ c=>.ca 236 [c,a] λd=>.fa p 0 λ_ e=>.store 1 e d (.rr [tt]))
def cO:ES cx 151 Z_:=λ_ _=>AF
def aBp(p q r:Aa):IT:=
 .ca 235 [q] λa=>.ln [a] λb=>.loop 1 [I 0] (λc=>.il [g c 0,b] λd=>.AH d (.ea 1 [a,g c 0] λe=>.ld e λf=>.Hu p f r (.ia [g c 0,I 1] λh=>.rn [h])) (.rx 0 [g c 0])) (lx 0 (λj=>.rr [.tuple []]) λj=>.rr [.tuple []])
def uS:Q3 cx 152 aBp:=λ_ _ _=>AF
def aBq(p:Aa):IT:=
 .BT p 0 λ_ _ a=>.fa p 1 λ_ b=>.load (some 12) b λc=>.ca 24 [a,c] λd=>.rr [d]
def uT:FL cx 153 aBq:=λ_=>AF
def aBr(p:Aa):IT:=
 .cells 1 p λa=>.rr [.func (.func 237) [] [.BW [g a 0]]]
def uU:FL cx 154 aBr:=λ_=>AF
def aBs(p:Aa):IT:=
 .BT p 0 λ_ _ a=>.ca 46 [a] λ_=>.BT p 0 λ_ _ b=>.fa p 1 λ_ c=>.load (some 12) c λd=>.ca 39 [b,d] λ_=>.rr [.tuple []]
def uV:FL cx 155 aBs:=λ_=>AF
def qv(p:Aa):IT:=
 .BT p 0 λ_ _ a=>.ca 46 [a] λ_=>.BT p 0 λ_ _ b=>.ca 120 [b] λc=>.cells 4 c λd=>.ie [g d 1,I 1] λe=>.AH e (.BG 238 [g d 2] λf=>.AH f (.BT p 0 λ_ _ h=>.fa h 2 λ_ j=>.ca 56 [j] λ_=>.BT p 0 λ_ _ k=>.fa p 1 λ_ m=>.load (some 12) m λn=>.ca 39 [k,n] λ_=>.rr [.tuple []]) (.BT p 0 λ_ _ o=>.fa p 1 λ_ s=>.load (some 12) s λu=>.ca 39 [o,u] λ_=>.rr [.tuple []])) (.BT p 0 λ_ _ w=>.fa p 1 λ_ y=>.load (some 12) y λz=>.ca 39 [w,z] λ_=>.rr [.tuple []])
def Vs:FL cx 156 qv:=λ_=>AF
def aBt(p:Aa):IT:=
 .ca 155 [p] λ_=>.BT p 0 λ_ _ a=>.fa a 17 λ_ b=>.store 1 b tt (.BT p 0 λ_ _ c=>.fa c 14 λ_ d=>.store 1 d ff (.rr [.tuple []]))
def uW:FL cx 157 aBt:=λ_=>AF
def aBu(p:Aa):IT:=
 .BT p 0 λ_ _ a=>.ca 47 [a] λ_=>.BT p 0 λ_ _ b=>.fa p 1 λ_ c=>.load (some 12) c λd=>.ca 42 [b,d] λ_=>.rr [.tuple []]
def uX:FL cx 158 aBu:=λ_=>AF
def aBv(p:Aa):IT:=
 .BT p 0 λ_ _ a=>.ca 47 [a] λ_=>.BT p 0 λ_ _ b=>.fa p 1 λ_ c=>.load (some 12) c λd=>.ca 39 [b,d] λ_=>.BT p 0 λ_ _ e=>.fa e 3 λ_ f=>.ca 54 [f] λ_=>.BT p 0 λ_ _ h=>.fa h 14 λ_ j=>.store 1 j ff (.rr [.tuple []])
def uY:FL cx 159 aBv:=λ_=>AF
def YA(p:Aa):IT:=
 .BT p 0 λ_ _ a=>.BT a 14 λ_ _ b=>.fa p 1 λ_ c=>.fl c 1 λ_ d=>.se [d,S [104,114]] λe=>.AH e (.BT p 0 λ_ _ f=>.ca 46 [f] λ_=>.BT p 0 λ_ _ h=>.fa p 1 λ_ j=>.load (some 12) j λk=>.ca 71 [h,k] λ_=>.BT p 0 λ_ _ m=>.fa m 14 λ_ n=>.store 1 n ff (.rr [.tuple []])) (.se [d,S aU3] λo=>.AH o (.BT p 0 λ_ _ s=>.fa p 1 λ_ u=>.load (some 12) u λw=>.ca 71 [s,w] λ_=>.BT p 0 λ_ _ y=>.fa y 14 λ_ z=>.store 1 z b (.rr [.tuple []])) (.se [d,S aUK] λa0=>.AH a0 (.BT p 0 λ_ _ a1=>.fa p 1 λ_ a2=>.load (some 12) a2 λa5=>.ca 71 [a1,a5] λ_=>.BT p 0 λ_ _ a7=>.fa a7 14 λ_ a8=>.store 1 a8 b (.rr [.tuple []])) (.se [d,S aU4] λb0=>.AH b0 (.BT p 0 λ_ _ b1=>.fa p 1 λ_ b2=>.load (some 12) b2 λb3=>.ca 71 [b1,b3] λ_=>.BT p 0 λ_ _ b4=>.fa b4 14 λ_ b5=>.store 1 b5 b (.rr [.tuple []])) (.se [d,S aUT] λb6=>.AH b6 (.BT p 0 λ_ _ b7=>.ca 47 [b7] λ_=>.AH b (.fa p 1 λ_ b8=>.load (some 12) b8 λb9=>.ca 239 [b9] λc0=>.BT p 0 λ_ _ c1=>.fa p 1 λ_ c2=>.load (some 12) c2 λc3=>.ca 71 [c1,c3] λ_=>.BT p 0 λ_ _ c4=>.fa c4 14 λ_ c5=>.store 1 c5 c0 (.rr [.tuple []])) (.BT p 0 λ_ _ c6=>.fa p 1 λ_ c7=>.load (some 12) c7 λc8=>.ca 71 [c6,c8] λ_=>.BT p 0 λ_ _ c9=>.fa c9 14 λ_ d0=>.store 1 d0 ff (.rr [.tuple []]))) (.se [d,S aUX] λd1=>.AH d1 (.fa p 1 λ_ d2=>.op (.Fg 1) [d2] λd3=>.store 1 d3 (S aU9) (.BT p 0 λ_ _ d4=>.ca 47 [d4] λ_=>.BT p 0 λ_ _ d5=>.fa p 1 λ_ d6=>.load (some 12) d6 λd7=>.ca 71 [d5,d7] λ_=>.BT p 0 λ_ _ d8=>.fa d8 14 λ_ d9=>.store 1 d9 ff (.rr [.tuple []]))) (.BT p 0 λ_ _ e0=>.ca 47 [e0] λ_=>.BT p 0 λ_ _ e1=>.fa p 1 λ_ e2=>.load (some 12) e2 λe3=>.ca 71 [e1,e3] λ_=>.BT p 0 λ_ _ e4=>.fa e4 14 λ_ e5=>.store 1 e5 ff (.rr [.tuple []])))))))
def Lx:FL cx 160 YA:=λ_=>AF
def aBw(p:Aa):IT:=
 .rr [ff]
def uZ:FL cx 161 aBw:=λ_=>AF
def pA(p:Aa):IT:=
 .fa p 1 λ_ a=>.fl a 1 λ_ b=>.se [b,S aUp] λc=>.AH c (.ca 155 [p] λ_=>.BT p 0 λ_ _ d=>.fa d 18 λ_ e=>.store 1 e (I 5) (.rr [.tuple []])) (.se [b,S aUt] λf=>.AH f (.BT p 0 λ_ _ h=>.fa p 1 λ_ j=>.load (some 12) j λk=>.ca 45 [h,k,I 2] λ_=>.BT p 0 λ_ _ m=>.fa m 17 λ_ n=>.store 1 n tt (.BT p 0 λ_ _ o=>.fa o 14 λ_ s=>.store 1 s ff (.rr [.tuple []]))) (.se [b,S aVn] λu=>.AH u (.BT p 0 λ_ _ w=>.ca 46 [w] λ_=>.BT p 0 λ_ _ y=>.ca 47 [y] λ_=>.BT p 0 λ_ _ z=>.fa z 14 λ_ a0=>.store 1 a0 ff (.BT p 0 λ_ _ a1=>.fa p 1 λ_ a2=>.load (some 12) a2 λa5=>.ca 45 [a1,a5,I 3] λ_=>.rr [.tuple []])) (.se [b,S aUL] λa7=>.AH a7 (.BT p 0 λ_ _ a8=>.fa a8 14 λ_ b0=>.store 1 b0 ff (.BT p 0 λ_ _ b1=>.fa p 1 λ_ b2=>.load (some 12) b2 λb3=>.ca 45 [b1,b3,I 3] λ_=>.rr [.tuple []])) (.BT p 0 λ_ _ b4=>.fa p 1 λ_ b5=>.load (some 12) b5 λb6=>.ca 45 [b4,b6,I 3] λ_=>.rr [.tuple []]))))
def Qb:FL cx 162 pA:=λ_=>AF
def da(p:Aa):IT:=
 .ca 240 [p,S aUB] λa=>.AH a (.fa p 1 λ_ b=>.fl b 1 λ_ c=>.se [c,S [114,112]] λd=>.AH d (.BT p 0 λ_ _ e=>.fa e 2 λ_ f=>.ca 112 [f,S aUI] λ_=>.BT p 0 λ_ _ h=>.fa p 1 λ_ j=>.load (some 12) j λk=>.ca 39 [h,k] λ_=>.rr [.tuple []]) (.fa p 1 λ_ m=>.fl m 1 λ_ n=>.se [n,S [114,116]] λo=>.AH o (.BT p 0 λ_ _ s=>.fa s 2 λ_ u=>.ca 112 [u,S aUI] λ_=>.BT p 0 λ_ _ w=>.fa p 1 λ_ y=>.load (some 12) y λz=>.ca 39 [w,z] λ_=>.rr [.tuple []]) (.BT p 0 λ_ _ a0=>.fa a0 2 λ_ a1=>.ca 112 [a1,S []] λ_=>.BT p 0 λ_ _ a2=>.fa p 1 λ_ a5=>.load (some 12) a5 λa7=>.ca 39 [a2,a7] λ_=>.rr [.tuple []]))) (.BT p 0 λ_ _ a8=>.fa p 1 λ_ b0=>.load (some 12) b0 λb1=>.ca 39 [a8,b1] λ_=>.rr [.tuple []])
def Sl:FL cx 163 da:=λ_=>AF
def t164(p:Aa):IT:=
 .fa p 1 λ_ a=>.fl a 1 λ_ b=>.se [b,S aUY] λc=>.AH c (.BT p 0 λ_ _ d=>.ca 47 [d] λ_=>.BT p 0 λ_ _ e=>.fa p 1 λ_ f=>.load (some 12) f λh=>.ca 41 [e,h,I 3] λ_=>.fa p 1 λ_ j=>.fl j 9 λ_ k=>.AH k (.BT p 0 λ_ _ m=>.fa m 2 λ_ n=>.ca 56 [n] λ_=>.rr [.tuple []]) (.rr [.tuple []])) (.BT p 0 λ_ _ o=>.ca 47 [o] λ_=>.BT p 0 λ_ _ s=>.fa p 1 λ_ u=>.load (some 12) u λw=>.ca 41 [s,w,I 2] λ_=>.fa p 1 λ_ y=>.fl y 9 λ_ z=>.AH z (.BT p 0 λ_ _ a0=>.fa a0 2 λ_ a1=>.ca 56 [a1] λ_=>.rr [.tuple []]) (.rr [.tuple []]))
def Sn:FL cx 164 t164:=λ_=>AF
def aBx(p:Aa):IT:=
 .BT p 0 λ_ _ a=>.fa a 14 λ_ b=>.store 1 b ff (.fa p 1 λ_ c=>.fl c 1 λ_ d=>.op (.str .neq) [d,S [108,105]] λe=>.F9 100016 (.AH e (.rn [S aVg]) (.rn [S [108,105]])) (nx (λf=>.BT p 0 λ_ _ h=>.fa h 2 λ_ j=>.ca 116 [j] λk=>.ib [k,I 1] λm=>.loop 5 [m] (λn=>.ih [g n 0,I 0] λo=>.AH o (.BT p 0 λ_ _ s=>.fa s 2 λ_ u=>.ca 117 [u,g n 0] λw=>.cells 4 w λy=>.F9 200008 (.ie [g y 1,I 1] λz=>.AH z (.BG 150 [g y 2,g f 0] λa0=>.rn [a0]) (.rn [ff])) (λx a1=>match x with| .normal=>.AH (g a1 0) (.ca 241 [p,g y 2,g y 2] λ_=>.rx 0 [g n 0]) (.F9 200010 (.BG 119 [g y 1,g y 2] λa2=>.AH a2 (.ie [g y 1,I 1] λa5=>.AH a5 (.BG 150 [g y 2,S aUH] λa7=>.nt [a7] λa8=>.rn [a8]) (.nt [ff] λb0=>.rn [b0])) (.rn [ff])) (λx b1=>match x with| .normal=>.AH (g b1 0) (.rx 0 [g n 0]) (.ib [g n 0,I 1] λb2=>.rn [b2])| .exit i=>if i=2 then .ib [g n 0,I 1] λb3=>.rn [b3] else if i=1 then .ib [g n 0,I 1] λb4=>.rn [b4] else .ret (.exit i) [g n 0]| .ret=>.rr [g n 0]))| .exit i=>if i=2 then .ib [g n 0,I 1] λb5=>.rn [b5] else if i=1 then .ib [g n 0,I 1] λb6=>.rn [b6] else .ret (.exit i) [g n 0]| .ret=>.rr [g n 0])) (.rx 0 [g n 0])) (lx 0 (λb7=>.ca 155 [p] λ_=>.rr [.tuple []]) λb7=>.rr [.tuple []])) λf=>.rr [.tuple []]))
def u0:FL cx 165 aBx:=λ_=>AF
def À(p:Aa):IT:=
 .BT p 0 λ_ _ a=>.ca 120 [a] λb=>.ca 242 [b,S aTO] λc=>.AH c (.BT p 0 λ_ _ d=>.fa d 2 λ_ e=>.ca 56 [e] λ_=>.BT p 0 λ_ _ f=>.ca 47 [f] λ_=>.BT p 0 λ_ _ h=>.fa p 1 λ_ j=>.load (some 12) j λk=>.ca 39 [h,k] λ_=>.rr [.tuple []]) (.BT p 0 λ_ _ m=>.ca 47 [m] λ_=>.BT p 0 λ_ _ n=>.fa p 1 λ_ o=>.load (some 12) o λs=>.ca 39 [n,s] λ_=>.rr [.tuple []])
def cP:FL cx 166 À:=λ_=>AF
def pB(p:Aa):IT:=
 .BT p 0 λ_ _ a=>.ca 79 [a] λb=>.AH b (.rr [.tuple []]) (.BT p 0 λ_ _ c=>.fa c 2 λ_ d=>.ca 116 [d] λe=>.ie [e,I 0] λf=>.AH f (.rr [.tuple []]) (.fa p 1 λ_ h=>.fl h 1 λ_ j=>.se [j,S aTu] λk=>.AH k (.BT p 0 λ_ m n=>.fa p 1 λ_ o=>.load (some 12) o λs=>.BT p 0 λ_ _ u=>.fa u 2 λ_ w=>.ca 117 [w,I 0] λy=>.load (some 12) o λz=>.same s z (.ld m λa0=>.same n a0 (.op (.part 0 none) [y] λa1=>.ca 51 [n,s,a1] λ_=>.rr [.tuple []]))) (.ca 243 [p] λa2=>.op (.ext 0) [a2] λa5=>.op (.ext 1) [a2] λa7=>.AH a7 (.BT p 0 λ_ _ a8=>.fa a8 14 λ_ b0=>.store 1 b0 ff (.BT p 0 λ_ _ b1=>.fa p 1 λ_ b2=>.load (some 12) b2 λb3=>.ca 51 [b1,b3,a5] λ_=>.rr [.tuple []])) (.rr [.tuple []]))))
def Qc:FL cx 167 pB:=λ_=>AF
def qw(p:Aa):IT:=
 .ca 243 [p] λa=>.op (.ext 0) [a] λb=>.op (.ext 1) [a] λc=>.nt [c] λd=>.AH d (.rr [.tuple []]) (.BT p 0 λ_ _ e=>.BT e 14 λ_ _ f=>.nt [f] λh=>.AH h (.rr [.tuple []]) (.BT p 0 λ_ _ j=>.BT j 0 λ_ _ k=>.ca 244 [k,b] λ_=>.loop 3 [] (λ_=>.BT p 0 λ_ _ m=>.fa m 2 λ_ n=>.ca 116 [n] λo=>.ig [o,I 1] λs=>.AH s (.BT p 0 λ_ _ u=>.fa u 2 λ_ w=>.ca 56 [w] λ_=>.rn []) (.rx 0 [])) (lx 0 (λy=>.BT p 0 λ_ _ z=>.fa p 1 λ_ a0=>.load (some 12) a0 λa1=>.ca 39 [z,a1] λ_=>.BT p 0 λ_ _ a2=>.fa a2 4 λ_ a5=>.store 1 a5 (I 20) (.rr [.tuple []])) λy=>.rr [.tuple []])))
def Vt:FL cx 168 qw:=λ_=>AF
def db(p:Aa):IT:=
 .BT p 0 λ_ _ a=>.ca 79 [a] λb=>.BT p 0 λ_ _ c=>.BT c 8 λ_ _ d=>.iq [d,I 0] λe=>.AH e (.nt [b] λf=>.AH f (.rr [.tuple []]) (.BT p 0 λ_ _ h=>.ca 46 [h] λ_=>.BT p 0 λ_ _ j=>.fa p 1 λ_ k=>.load (some 12) k λm=>.ca 39 [j,m] λn=>.nt [b] λo=>.AH o (.BT p 0 λ_ _ s=>.fa s 8 λ_ u=>.store 1 u n (.rr [.tuple []])) (.rr [.tuple []]))) (.BT p 0 λ_ _ w=>.ca 46 [w] λ_=>.BT p 0 λ_ _ y=>.fa p 1 λ_ z=>.load (some 12) z λa0=>.ca 39 [y,a0] λa1=>.nt [b] λa2=>.AH a2 (.BT p 0 λ_ _ a5=>.fa a5 8 λ_ a7=>.store 1 a7 a1 (.rr [.tuple []])) (.rr [.tuple []]))
def So:FL cx 169 db:=λ_=>AF
def Á(p:Aa):IT:=
 .ca 240 [p,S aTw] λa=>.AH a (.ca 241 [p,S aTw,S []] λ_=>.BT p 0 λ_ _ b=>.ca 47 [b] λ_=>.BT p 0 λ_ _ c=>.fa p 1 λ_ d=>.load (some 12) d λe=>.ca 39 [c,e] λ_=>.BT p 0 λ_ _ f=>.fa f 14 λ_ h=>.store 1 h ff (.rr [.tuple []])) (.BT p 0 λ_ _ j=>.ca 47 [j] λ_=>.BT p 0 λ_ _ k=>.fa p 1 λ_ m=>.load (some 12) m λn=>.ca 39 [k,n] λ_=>.BT p 0 λ_ _ o=>.fa o 14 λ_ s=>.store 1 s ff (.rr [.tuple []]))
def cQ:FL cx 170 Á:=λ_=>AF
def Â(p:Aa):IT:=
 .BT p 0 λ_ _ a=>.fa a 3 λ_ b=>.ca 209 [b,S [97]] λc=>.ih [c,I 0] λd=>.AH d (.BT p 0 λ_ _ e=>.fa e 3 λ_ f=>.fl f 0 λ_ h=>.ea 3 [h,c] λj=>.fl j 0 λ_ k=>.BT p 0 λ_ _ m=>.ca 49 [m,S [97]] λ_=>.BT p 0 λ_ _ n=>.fa n 3 λ_ o=>.ca 245 [o,k] λ_=>.BT p 0 λ_ _ s=>.fa s 2 λ_ u=>.ca 151 [u,k] λ_=>.ca 158 [p] λ_=>.rr [.tuple []]) (.ca 158 [p] λ_=>.rr [.tuple []])
def cR:FL cx 171 Â:=λ_=>AF
def Ã(p:Aa):IT:=
 .BT p 0 λ_ _ a=>.ca 47 [a] λ_=>.ca 240 [p,S aTT] λb=>.AH b (.BT p 0 λ_ _ c=>.ca 49 [c,S aTT] λ_=>.BT p 0 λ_ _ d=>.ca 47 [d] λ_=>.BT p 0 λ_ _ e=>.fa p 1 λ_ f=>.load (some 12) f λh=>.ca 42 [e,h] λ_=>.rr [.tuple []]) (.BT p 0 λ_ _ j=>.fa p 1 λ_ k=>.load (some 12) k λm=>.ca 42 [j,m] λ_=>.rr [.tuple []])
def cS:FL cx 172 Ã:=λ_=>AF
def Ä(p:Aa):IT:=
 .BT p 0 λ_ _ a=>.BT a 0 λ_ _ b=>.BT p 0 λ_ _ c=>.BT c 1 λ_ _ d=>.ca 101 [b,d] λe=>.op (.ext 0) [e] λf=>.op (.ext 1) [e] λ_=>.cells 13 f λh=>.nt [g h 10] λj=>.AH j (.BT p 0 λ_ _ k=>.ca 46 [k] λ_=>.BT p 0 λ_ _ m=>.fa p 1 λ_ n=>.load (some 12) n λo=>.ca 39 [m,o] λ_=>.BT p 0 λ_ _ s=>.fa s 14 λ_ u=>.store 1 u ff (.BT p 0 λ_ _ w=>.fa w 4 λ_ y=>.store 1 y (I 9) (.rr [.tuple []]))) (.BT p 0 λ_ _ z=>.fa p 1 λ_ a0=>.load (some 12) a0 λa1=>.ca 39 [z,a1] λ_=>.BT p 0 λ_ _ a2=>.fa a2 14 λ_ a5=>.store 1 a5 ff (.BT p 0 λ_ _ a7=>.fa a7 4 λ_ a8=>.store 1 a8 (I 9) (.rr [.tuple []])))
def cT:FL cx 173 Ä:=λ_=>AF
end Go.Am
