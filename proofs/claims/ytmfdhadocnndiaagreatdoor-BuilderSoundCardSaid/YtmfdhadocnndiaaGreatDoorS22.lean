/- Lemmas -/
import Derived.Test.YtmfdhadocnndiaaGreatDoorS9
import Derived.Test.YtmfdhadocnndiaaGreatDoorS18
set_option linter.all false
namespace Go.Am
open Go
def t72(p q:Aa):IT:=
 .op (.UB true) [p,.ptr none] λa=>.AM a (.ih [q,I 1] λb=>.AM b (.CC p 0 λ_ _ c=>.ln [c] λd=>.ik [q,d] λe=>.rr [e]) (.rr [ff])) (.rr [ff])
def vR:Gl cx 72 t72:=λ_ _=>AU
def t75(p q:Aa):IT:=
 .cells 13 q λa=>.CC p 0 λ_ _ b=>.op (.B0 [I 0,I 0,.slnil,I 0,I 0,S [],.slnil,S [],S [],S [],ff,I 0,I 0] [(0,13)]) [aO a] λc=>.op (.Cb 13) [c] λd=>.FC 13 168 b d λe=>.fa p 0 λ_ f=>.store 1 f e (.CC p 0 λ_ _ h=>.ln [h] λj=>.rr [j])
def eS:Gl cx 75 t75:=λ_ _=>AU
def t76(p q:Aa):IT:=
 .CC p 0 λ_ _ a=>.ib [q,I 1] λb=>.ea 13 [a,b] λc=>.rr [c]
def eT:Gl cx 76 t76:=λ_ _=>AU
def t77(p q:Aa):IT:=
 .cells 4 q λa=>.op (.UB true) [p,.ptr none] λb=>.AM b (.CC p 0 λ_ _ c=>.CC p 0 λ_ _ d=>.ln [d] λe=>.ca 137 [c,a4 a,e] λf=>.fa p 0 λ_ h=>.store 1 h f (.rr [.tuple []])) (.rr [.tuple []])
def vS:Gl cx 77 t77:=λ_ _=>AU
def t78(p q r:Aa):IT:=
 .ie [p,I 2] λa=>.AM a (.Cx 88 [p,q] λb=>.rr [b]) (.iq [p,I 3] λc=>.AM c (.rr [ff]) (.op (.str .neq) [q,S aLJ] λd=>.AM d (.rr [ff]) (.ca 138 [r,.func (.func 139) [] []] λe=>.ih [e,I 0] λf=>.AM f (.ea 3 [r,e] λh=>.fl h 2 λ_ j=>.Cx 140 [j,S aMe] λk=>.AM k (.rr [tt]) (.ea 3 [r,e] λm=>.fl m 2 λ_ n=>.Cx 140 [n,S aLQ] λo=>.rr [o])) (.rr [ff]))))
def vT:QI cx 78 t78:=λ_ _ _=>AU
def t79(p q:Aa):IT:=
 .op (.Cb 1) [q] λa=>.ca 118 [p,a] λb=>.iq [b,I 0] λc=>.AM c (.op (.B0 [I 0,I 0,.slnil,I 0,I 0,S [],.slnil,S [],S [],S [],ff,I 0,I 0] []) [] λd=>.cells 13 d λe=>.rr [.tuple [aO e,b]]) (.ca 76 [p,q] λf=>.ca 44 [f] λh=>.cells 13 h λj=>.rr [.tuple [aO j,I 0]])
def eU:Gl cx 79 t79:=λ_ _=>AU
def t80(p q r u:Aa):IT:=
 .cells 12 r λa=>.ca 61 [p,I 0] λb=>.op (.ext 0) [b] λc=>.op (.ext 1) [b] λd=>.Es q [js a,u,c] λe=>.cells 4 e λf=>.iq [g f 0,I 0] λh=>.AM h (.ca 67 [p,g f 0,c,d] λ_=>.fa p 2 λ_ j=>.ca 77 [j,a4 f] λ_=>.rr [g f 0]) (.rr [g f 0])
def eV:ú cx 80 t80:=λ_ _ _ _=>AU
def t81(p q r:Aa):IT:=
 .op (.B0 [I 0,I 0,.slnil,I 0,I 0,S [],.slnil,S [],S [],S [],ff,I 0,I 0] [(0,1),(7,1)]) [I 6,r] λa=>.ca 119 [p,q,a] λb=>.op (.ext 0) [b] λc=>.op (.ext 1) [b] λd=>.rr [.tuple [c,d]]
def ue:QI cx 81 t81:=λ_ _ _=>AU
def t82(p q r:Aa):IT:=
 .cells 1 r λa=>.ca 141 [p,q,.func (.func 142) [] [.B3 [g a 0]]] λb=>.rr [b]
def uf:QI cx 82 t82:=λ_ _ _=>AU
def t83(p q:Aa):IT:=
 .cells 1 q λa=>.ca 97 [p,.func (.func 143) [] [.B3 [g a 0]],.func (.func 98) [] []] λb=>.rr [b]
def vU:Gl cx 83 t83:=λ_ _=>AU
def t84(p q:Aa):IT:=
 .cells 1 q λa=>.ca 145 [p,.func (.func 146) [] [.B3 [g a 0]]] λb=>.rr [b]
def vV:Gl cx 84 t84:=λ_ _=>AU
def ē(p:Aa):IT:=
 .op (.Gb false .sl) [p,.slnil] λa=>.AM a (.rr [.slnil]) (.op (.Cb 3) [] λb=>.IV 3 48 b p λc=>.rr [c])
def XF:IZ cx 85 ē:=λ_=>AU
def t86(p:Aa):IT:=
 .cells 3 p λa=>.op (.B0 [I 0,S [],ff,S [],ff,S [],ff,ff,.slnil,ff,S [],.int .i32 0] [(0,1),(1,1),(8,1)]) [I 2,g a 1,g a 2] λb=>.cells 12 b λc=>.rr [js c]
def vW:IZ cx 86 t86:=λ_=>AU
def t87(p q:Aa):IT:=
 .cells 1 q λa=>.ca 84 [p,g a 0] λb=>.il [b,I 0] λc=>.AM c (.rr [I 0]) (.ca 97 [p,.func (.func 98) [] [],.func (.func 147) [] [.B3 [g a 0]]] λd=>.rr [d])
def eW:Gl cx 87 t87:=λ_ _=>AU
def t88(p q:Aa):IT:=
 .ie [p,I 3] λa=>.AM a (.se [q,S aLJ] λb=>.AM b (.rr [tt]) (.Cx 148 [p,q] λc=>.rr [c])) (.ie [p,I 2] λd=>.AM d (.se [q,S aMh] λe=>.AM e (.rr [tt]) (.se [q,S aLL] λf=>.AM f (.rr [tt]) (.se [q,S aLX] λh=>.rr [h]))) (.ie [p,I 1] λj=>.AM j (swv q (.rr [tt]) (.rr [ff]) PI) (.rr [ff])))
def vX:Gl cx 88 t88:=λ_ _=>AU
def t89(p q r:Aa):IT:=
 .cells 4 q λa=>.ca 149 [] λb=>.ln [b] λc=>.loop 2 [I 0,ff,I 0] (λd=>.il [g d 2,c] λe=>.AM e (.ea 2 [b,g d 2] λf=>.load (some 2) f λh=>.cells 2 h λj=>.op (.Cb 1) [g j 0] λk=>.ca 69 [a4 a,k] λm=>.AM m (.rr [g j 1,tt,g d 2]) (.ia [g d 2,I 1] λn=>.rn [g d 0,g d 1,n])) (.rx 0 [g d 0,g d 1,g d 2])) (lx 0 (λo=>.op (.Cb 1) [S aMf] λs=>.ca 69 [a4 a,s] λu=>.AM u (.ca 150 [p,r] λw=>.rr [.tuple [w,tt]]) (.DW 200009 (.op (.Cb 1) [S [116,100],S [116,104]] λy=>.ca 69 [a4 a,y] λz=>.AM z (.ig [r,I 0] λa0=>.rn [a0]) (.rn [ff])) (λx a1=>match x with| .normal=>.AM (g a1 0) (.rr [.tuple [I 15,tt]]) (.op (.Cb 1) [S aLI] λa2=>.ca 69 [a4 a,a2] λa5=>.AM a5 (.CC p 6 λ_ _ a7=>.ln [a7] λa8=>.ig [a8,I 0] λb0=>.AM b0 (.CC p 6 λ_ _ b1=>.ib [a8,I 1] λb2=>.ea 1 [b1,b2] λb3=>.ld b3 λb4=>.rr [.tuple [b4,tt]]) (.rr [.tuple [I 7,tt]])) (.DW 200016 (.op (.Cb 1) [S [104,101,97,100]] λb5=>.ca 69 [a4 a,b5] λb6=>.AM b6 (.ig [r,I 0] λb7=>.rn [b7]) (.rn [ff])) (λx b8=>match x with| .normal=>.AM (g b8 0) (.rr [.tuple [I 4,tt]]) (.op (.Cb 1) [S aLN] λb9=>.ca 69 [a4 a,b9] λc1=>.AM c1 (.CC p 7 λ_ _ c2=>.ie [c2,I 0] λc4=>.AM c4 (.rr [.tuple [I 3,tt]]) (.rr [.tuple [I 6,tt]])) (.ie [r,I 0] λc5=>.rr [.tuple [I 7,c5]]))| .exit i=>if i=2 then .ie [r,I 0] λc6=>.rr [.tuple [I 7,c6]] else .fail| .ret=>.rr [.tuple [g o 0,g o 1]])))| .exit i=>if i=2 then .ie [r,I 0] λc8=>.rr [.tuple [I 7,c8]] else .fail| .ret=>.rr [.tuple [g o 0,g o 1]]))) λo=>.rr [.tuple [g o 0,g o 1]])
def vY:QI cx 89 t89:=λ_ _ _=>AU
def t90(p q:Aa):IT:=
 .ca 138 [p,q] λa=>.ih [a,I 0] λb=>.rr [b]
def eX:Gl cx 90 t90:=λ_ _=>AU
def t91(p q:Aa):IT:=
 .cells 3 p λa=>.ie [g a 0,I 0] λb=>.AM b (.fl q 1 λ_ c=>.se [g a 1,c] λd=>.rr [d]) (.rr [ff])
def ug:Gl cx 91 t91:=λ_ _=>AU
def t92(p q r:Aa):IT:=
 .op (.Cb 1) [q] λa=>.ca 118 [p,a] λb=>.iq [b,I 0] λc=>.AM c (.rr [b]) (.ca 76 [p,q] λd=>.fa d 0 λ_ e=>.fl e 0 λ_ f=>.iq [f,I 4] λh=>.AM h (.rr [I 9]) (.ca 107 [r] λj=>.op (.ext 0) [j] λk=>.op (.ext 1) [j] λm=>.nt [m] λn=>.AM n (.rr [I 2]) (.fa d 0 λ_ o=>.op (.FB 6) [o] λs=>.store 1 s k (.rr [I 0]))))
def uh:QI cx 92 t92:=λ_ _ _=>AU
def t93(p q:Aa):IT:=
 .cells 1 q λa=>.ca 145 [p,.func (.func 151) [] [.B3 [g a 0]]] λb=>.rr [b]
def vZ:Gl cx 93 t93:=λ_ _=>AU
def t94(p:Aa):IT:=
 .ca 97 [p,.func (.func 152) [] [],.func (.func 98) [] []] λa=>.rr [a]
def ui:IZ cx 94 t94:=λ_=>AU
def t95(p q r:Aa):IT:=
 .cells 3 q λa=>.op (.Qo 3 false false true) [p,r] λb=>.op (.append 3 48) [.slnil,b] λc=>.op (.Cb 3) [a3 a] λd=>.op (.append 3 48) [c,d] λe=>.op (.Qo 3 false true false) [p,r] λf=>.op (.append 3 48) [e,f] λh=>.rr [h]
def v8:QI cx 95 t95:=λ_ _ _=>AU
def t96(p:Aa):IT:=
 .CC p 0 λ_ _ a=>.ln [a] λb=>.loop 2 [b] (λc=>.ig [g c 0,I 0] λd=>.AM d (.CC p 0 λ_ _ e=>.ib [g c 0,I 1] λf=>.ea 3 [e,f] λh=>.fl h 0 λ_ j=>.iq [j,I 0] λk=>.AM k (.ib [g c 0,I 1] λm=>.rn [m]) (.rx 0 [g c 0])) (.rx 0 [g c 0])) (lx 0 (λn=>.rr [g n 0]) λn=>.rr [I 0])
def wA:IZ cx 96 t96:=λ_=>AU
def t97(p q r:Aa):IT:=
 .loop 2 [I 0] (λa=>.ca 10 [p] λb=>.ig [b,I 1] λc=>.AM c (.ca 68 [p] λd=>.Es q [d] λe=>.nt [e] λf=>.AM f (.ia [g a 0,I 1] λh=>.ca 40 [p] λj=>.Es r [j] λk=>.AM k (.rx 0 [h]) (.rn [h])) (.rx 0 [g a 0])) (.rx 0 [g a 0])) (lx 0 (λm=>.rr [g m 0]) λm=>.rr [I 0])
def wB:QI cx 97 t97:=λ_ _ _=>AU
def t98(p:Aa):IT:=
 .cells 4 p λ_=>.rr [ff]
def wC:IZ cx 98 t98:=λ_=>AU
def t99(p q:Aa):IT:=
 .cells 4 p λa=>.ld q λb=>.ca 100 [a4 a,b] λc=>.rr [c]
def uj:Gl cx 99 t99:=λ_ _=>AU
def uk(p q:Aa):IT:=
 .cells 4 p λa=>.ie [g a 1,I 1] λb=>.AM b (.ca 124 [q,g a 2] λc=>.rr [c]) (.rr [ff])
def jF:Gl cx 100 uk:=λ_ _=>AU
def um(p q:Aa):IT:=
 .N4 λa=>.op (.B0 [I 0,S [],S []] [(0,1),(1,1)]) [I 4,S aMc] λb=>.Js a (S aLS) b (.op (.B0 [I 0,S [],S []] [(0,1),(1,1)]) [I 4,S aMb] λc=>.Js a (S aLR) c (.op (.B0 [I 0,S [],S []] [(0,1),(1,1)]) [I 4,S aMm] λd=>.Js a (S aL2) d (.op (.B0 [I 0,S [],S []] [(0,1),(1,1)]) [I 4,S aMn] λe=>.Js a (S aL3) e (.op (.B0 [I 0,S [],S []] [(0,1),(1,1)]) [I 4,S aMo] λf=>.Js a (S aL4) f (.op (.B0 [I 0,S [],S []] [(0,1),(1,1)]) [I 4,S aLX] λh=>.Js a (S aLT) h (.op (.B0 [I 0,S [],S []] [(0,1),(1,1)]) [I 4,S aMp] λj=>.Js a (S aL5) j (.op (.B0 [I 0,S [],S []] [(0,1),(1,1)]) [I 5,S [108,97,110,103]] λk=>.Js a (S aL9) k (.op (.B0 [I 0,S [],S []] [(0,1),(1,1)]) [I 5,S aMl] λm=>.Js a (S aL7) m (.op (.B0 [I 0,S [],S []] [(0,1),(1,1)]) [I 6,S aLY] λn=>.Js a (S aLY) n (.op (.B0 [I 0,S [],S []] [(0,1),(1,1)]) [I 6,S aMk] λo=>.Js a (S aLU) o (.ln [q] λs=>.loop 4 [.slnil,I 0] (λu=>.il [g u 1,s] λw=>.AM w (.ea 3 [q,g u 1] λy=>.load (some 3) y λz=>.cells 3 z λa0=>.op (.B0 [I 0,S [],S []] [(1,1),(2,1)]) [g a0 1,g a0 2] λa1=>.cells 3 a1 λa2=>.ie [p,I 2] λa5=>.DW 100036 (.AM a5 (.Cx 154 [g a0 1] λa7=>.cells 1 a7 λa8=>.rn [.agg [g a2 0,g a8 0,g a2 2]]) (.DW 200009 (.ie [p,I 3] λb0=>.AM b0 (.se [g a0 1,S aL6] λb1=>.rn [b1]) (.rn [ff])) (λx b2=>match x with| .normal=>.DW 100043 (.AM (g b2 0) (.cells 1 (S aL8) λb3=>.rn [.agg [g a2 0,g b3 0,g a2 2]]) (.rn [a3 a2])) (λx b4=>.cells 3 (g b4 0) λb5=>.ret x [a3 b5])| .exit i=>.ret (.exit i) [a3 a2]| .ret=>.rr [a3 a2]))) (λx b6=>.cells 3 (g b6 0) λb7=>match x with| .normal=>.Ly (.agg [I 0,S [],S []]) true a (g b7 1) λb8=>.op (.ext 0) [b8] λb9=>.op (.ext 1) [b8] λc0=>.cells 3 b9 λc1=>.DW 200012 (.AM c0 (.ie [p,I 2] λc2=>.AM c2 (.rn [tt]) (.ie [p,I 3] λc3=>.rn [c3])) (.rn [ff])) (λx c4=>match x with| .normal=>.DW 100067 (.AM (g c4 0) (.cells 1 (g c1 0) λc5=>.cells 1 (g c1 1) λc6=>.rn [.agg [g c5 0,g c6 0,g b7 2]]) (.rn [a3 b7])) (λx c7=>.cells 3 (g c7 0) λc8=>match x with| .normal=>.op (.Cb 3) [a3 c8] λc9=>.op (.append 3 40) [g u 0,c9] λd0=>.ia [g u 1,I 1] λd1=>.rn [d0,d1]| .exit i=>if i=1 then .ia [g u 1,I 1] λd2=>.rn [g u 0,d2] else .ret (.exit i) [g u 0,g u 1]| .ret=>.rr [g u 0,g u 1])| .exit i=>if i=1 then .ia [g u 1,I 1] λd3=>.rn [g u 0,d3] else .ret (.exit i) [g u 0,g u 1]| .ret=>.rr [g u 0,g u 1])| .exit i=>if i=2 then .Ly (.agg [I 0,S [],S []]) true a (g b7 1) λd4=>.op (.ext 0) [d4] λd5=>.op (.ext 1) [d4] λd6=>.cells 3 d5 λd7=>.DW 200012 (.AM d6 (.ie [p,I 2] λd8=>.AM d8 (.rn [tt]) (.ie [p,I 3] λd9=>.rn [d9])) (.rn [ff])) (λx e0=>match x with| .normal=>.DW 100067 (.AM (g e0 0) (.cells 1 (g d7 0) λe1=>.cells 1 (g d7 1) λe2=>.rn [.agg [g e1 0,g e2 0,g b7 2]]) (.rn [a3 b7])) (λx e3=>.cells 3 (g e3 0) λe4=>match x with| .normal=>.op (.Cb 3) [a3 e4] λe5=>.op (.append 3 40) [g u 0,e5] λe6=>.ia [g u 1,I 1] λe7=>.rn [e6,e7]| .exit i=>if i=1 then .ia [g u 1,I 1] λe8=>.rn [g u 0,e8] else .ret (.exit i) [g u 0,g u 1]| .ret=>.rr [g u 0,g u 1])| .exit i=>if i=1 then .ia [g u 1,I 1] λe9=>.rn [g u 0,e9] else .ret (.exit i) [g u 0,g u 1]| .ret=>.rr [g u 0,g u 1]) else if i=1 then .ia [g u 1,I 1] λf0=>.rn [g u 0,f0] else .ret (.exit i) [g u 0,g u 1]| .ret=>.rr [g u 0,g u 1])) (.rx 0 [g u 0,g u 1])) (lx 0 (λf1=>.rr [g f1 0]) λf1=>.rr [.slnil]))))))))))))
def jG:Gl cx 101 um:=λ_ _=>AU
def uo(p:Aa):IT:=
 .Cx 155 [p,S aLH] λa=>.rr [a]
def jH:IZ cx 102 uo:=λ_=>AU
def cl(p q r u w:Aa):IT:=
 .ca 156 [p,q] λa=>.iq [a,I 0] λb=>.AM b (.rr [.tuple [I 0,a]]) (.ca 107 [w] λc=>.op (.ext 0) [c] λd=>.op (.ext 1) [c] λe=>.nt [e] λf=>.AM f (.rr [.tuple [I 0,I 2]]) (.op (.Cb 1) [r] λh=>.ca 106 [h] λj=>.nt [j] λk=>.AM k (.rr [.tuple [I 0,I 2]]) (.op (.B0 [I 0,I 0,.slnil,I 0,I 0,S [],.slnil,S [],S [],S [],ff,I 0,I 0] [(0,1),(3,1),(4,1),(5,1),(6,1)]) [I 4,q,r,u,d] λm=>.ca 75 [p,m] λn=>.ca 76 [p,n] λo=>.ca 50 [o] λs=>.AM s (.ca 157 [p,q] λy=>.op (.B0 [I 0,I 0,.slnil,I 0,I 0,S [],.slnil,S [],S [],S [],ff,I 0,I 0] [(0,1),(12,1),(3,1)]) [I 2,n,y] λz=>.ca 75 [p,z] λa0=>.ca 76 [p,n] λa1=>.fa a1 0 λ_ a2=>.op (.FB 11) [a2] λa5=>.store 1 a5 a0 (.rr [.tuple [n,I 0]])) (.rr [.tuple [n,I 0]]))))
def XG:Tq5 cx 103 cl:=λ_ _ _ _ _=>AU
def cm(p q:Aa):IT:=
 .ca 62 [p,q] λa=>.cells 13 a λb=>.iq [g b 11,I 0] λc=>.AM c (.ca 62 [p,g b 11] λd=>.cells 13 d λe=>.iq [g e 3,I 0] λf=>.AM f (.rr [g e 3]) (.CC p 1 λ_ _ h=>.rr [h])) (.iq [g b 3,I 0] λj=>.AM j (.rr [g b 3]) (.CC p 1 λ_ _ k=>.rr [k]))
def XH:Gl cx 104 cm:=λ_ _=>AU
def cq(p:Aa):IT:=
 .op (.Gb false .sl) [p,.slnil] λa=>.AM a (.rr [.slnil]) (.op (.Cb 1) [] λb=>.FD 1 8 b p λc=>.rr [c])
def XI:IZ cx 105 cq:=λ_=>AU
def uq(p:Aa):IT:=
 .ln [p] λa=>.loop 2 [ff,I 0] (λb=>.il [g b 1,a] λc=>.AM c (.ea 1 [p,g b 1] λd=>.ld d λe=>.il [e,I 0] λf=>.AM f (.rr [ff,g b 1]) (.ig [e,I 7] λh=>.AM h (.rr [ff,g b 1]) (.ia [g b 1,I 1] λj=>.rn [g b 0,j]))) (.rx 0 [g b 0,g b 1])) (lx 0 (λk=>.rr [tt]) λk=>.rr [g k 0])
def jI:IZ cx 106 uq:=λ_=>AU
def ur(p:Aa):IT:=
 .ln [p] λa=>.loop 3 [.slnil,ff,.slnil,I 0] (λb=>.il [g b 3,a] λc=>.AM c (.ea 3 [p,g b 3] λd=>.load (some 3) d λe=>.cells 3 e λf=>.op (.Cb 1) [g f 0] λh=>.ca 106 [h] λj=>.nt [j] λk=>.AM k (.rr [.slnil,ff,g b 2,g b 3]) (.ca 90 [g b 2,.func (.func 158) [] [.B3 [g f 0,g f 1,g f 2]]] λm=>.nt [m] λn=>.AM n (.load (some 3) (.B3 [g f 0,g f 1,g f 2]) λo=>.op (.Cb 3) [o] λs=>.op (.append 3 40) [g b 2,s] λu=>.ia [g b 3,I 1] λw=>.rn [g b 0,g b 1,u,w]) (.ia [g b 3,I 1] λy=>.rn [g b 0,g b 1,g b 2,y]))) (.rx 0 [g b 0,g b 1,g b 2,g b 3])) (lx 0 (λz=>.rr [.tuple [g z 2,tt]]) λz=>.rr [.tuple [g z 0,g z 1]])
def jJ:IZ cx 107 ur:=λ_=>AU
def t109(p:Aa):IT:=
 .cells 13 p λa=>.ie [g a 0,I 4] λb=>.AM b (.ie [g a 4,I 1] λc=>.AM c (.se [g a 5,S aLI] λd=>.rr [d]) (.rr [ff])) (.rr [ff])
def cr:IZ cx 109 t109:=λ_=>AU
def Ĕ(p q:Aa):IT:=
 .ig [q,I 0] λa=>.AM a (.CC p 0 λ_ _ b=>.ln [b] λc=>.il [q,c] λd=>.rr [d]) (.rr [ff])
def ct:Gl cx 110 Ĕ:=λ_ _=>AU
def ĕ(p q:Aa):IT:=
 .loop 2 [I 0,I 0] (λa=>.ln [p] λb=>.il [g a 1,b] λc=>.AM c (.ea 1 [p,g a 1] λd=>.ld d λe=>.ie [e,q] λf=>.AM f (.rr [g a 1,g a 1]) (.ia [g a 1,I 1] λh=>.rn [g a 0,h])) (.rx 0 [g a 0,g a 1])) (lx 0 (λj=>.rr [I (-1)]) λj=>.rr [g j 0])
def cu:Gl cx 111 ĕ:=λ_ _=>AU
def Ė(p q:Aa):IT:=
 .CC p 0 λ_ _ a=>.ea 13 [a,q] λb=>.fl b 1 λ_ c=>.iq [c,I 0] λd=>.AM d (.CC p 0 λ_ _ e=>.ea 13 [e,q] λf=>.fl f 1 λ_ h=>.rr [h]) (.CC p 0 λ_ _ j=>.ea 13 [j,q] λk=>.fl k 12 λ_ m=>.rr [m])
def cw:Gl cx 112 Ė:=λ_ _=>AU
def uv(p q:Aa):IT:=
 .cells 3 p λa=>.cells 3 q λb=>.se [g a 1,g b 1] λc=>.AM c (.ln [g a 2] λd=>.ln [g b 2] λe=>.ie [d,e] λf=>.AM f (.Es (.func (.func 160) [] []) [g a 2,g b 2] λh=>.AM h (.Es (.func (.func 160) [] []) [g b 2,g a 2] λj=>.rr [j]) (.rr [ff])) (.rr [ff])) (.rr [ff])
def jK:Gl cx 113 uv:=λ_ _=>AU
def uw(p q:Aa):IT:=
 .op (.Qo 3 false false true) [p,q] λa=>.op (.append 3 48) [.slnil,a] λb=>.ia [q,I 1] λc=>.op (.Qo 3 false true false) [p,c] λd=>.op (.append 3 48) [b,d] λe=>.rr [e]
def jL:Gl cx 114 uw:=λ_ _=>AU
def ux(p:Aa):IT:=
 .cells 3 p λa=>.ca 47 [g a 2] λb=>.cells 1 b λc=>.cells 3 (.agg [g a 0,g a 1,g c 0]) λd=>.rr [a3 d]
def jM:IZ cx 115 ux:=λ_=>AU
def uy(p:Aa):IT:=
 .fa p 2 λ_ a=>.fa p 2 λ_ b=>.ca 93 [a,S aLK] λc=>.ca 93 [b,S aLI] λd=>.ig [d,c] λe=>.AM e (.fa p 2 λ_ f=>.ca 8 [f,d] λh=>.op (.part 0 none) [h] λj=>.rr [.tuple [j,I 0]]) (.il [c,I 0] λk=>.AM k (.fa p 2 λ_ m=>.ca 8 [m,I 0] λn=>.op (.part 0 none) [n] λo=>.rr [.tuple [o,I 0]]) (.fa p 2 λ_ s=>.ca 8 [s,c] λu=>.op (.part 0 none) [u] λw=>.CC p 0 λ_ _ y=>.ca 163 [y,w] λz=>.iq [z,I 0] λa0=>.AM a0 (.rr [.tuple [z,w]]) (.fa p 2 λ_ a1=>.ib [c,I 1] λa2=>.op (.JM true) [a2,I 0] λa5=>.ca 8 [a1,a5] λa7=>.op (.part 0 none) [a7] λa8=>.rr [.tuple [a8,I 0]])))
def jN:IZ cx 116 uy:=λ_=>AU
def cy(p q:Aa):IT:=
 .op (.conv .u32) [q] λa=>.ik [a,.int .u32 2047] λb=>.AM b (.op (.int .shr) [q,.int .u64 6] λc=>.op (.conv .u8) [c] λd=>.op (.int .or) [.int .u8 192,d] λe=>.op (.conv .u8) [q] λf=>.op (.int .and) [f,.int .u8 63] λh=>.op (.int .or) [.int .u8 128,h] λj=>.op (.Cb 1) [e,j] λk=>.FC 1 1 p k λm=>.rr [m]) (.il [a,.int .u32 55296] λn=>.AM n (.op (.int .shr) [q,.int .u64 12] λo=>.op (.conv .u8) [o] λs=>.op (.int .or) [.int .u8 224,s] λu=>.op (.int .shr) [q,.int .u64 6] λw=>.op (.conv .u8) [w] λy=>.op (.int .and) [y,.int .u8 63] λz=>.op (.int .or) [.int .u8 128,z] λa0=>.op (.conv .u8) [q] λa1=>.op (.int .and) [a1,.int .u8 63] λa2=>.op (.int .or) [.int .u8 128,a2] λa5=>.op (.Cb 1) [u,a0,a5] λa7=>.FC 1 1 p a7 λa8=>.rr [a8]) (.il [.int .u32 57343,a] λb0=>.AM b0 (.ik [a,.int .u32 65535] λb1=>.AM b1 (.op (.int .shr) [q,.int .u64 12] λb2=>.op (.conv .u8) [b2] λb3=>.op (.int .or) [.int .u8 224,b3] λb4=>.op (.int .shr) [q,.int .u64 6] λb5=>.op (.conv .u8) [b5] λb6=>.op (.int .and) [b6,.int .u8 63] λb7=>.op (.int .or) [.int .u8 128,b7] λb8=>.op (.conv .u8) [q] λb9=>.op (.int .and) [b9,.int .u8 63] λc0=>.op (.int .or) [.int .u8 128,c0] λc1=>.op (.Cb 1) [b4,b8,c1] λc2=>.FC 1 1 p c2 λc3=>.rr [c3]) (.ig [a,.int .u32 65535] λc4=>.AM c4 (.ik [a,.int .u32 1114111] λc5=>.AM c5 (.op (.int .shr) [q,.int .u64 18] λc6=>.op (.conv .u8) [c6] λc7=>.op (.int .or) [.int .u8 240,c7] λc8=>.op (.int .shr) [q,.int .u64 12] λc9=>.op (.conv .u8) [c9] λd0=>.op (.int .and) [d0,.int .u8 63] λd1=>.op (.int .or) [.int .u8 128,d1] λd2=>.op (.int .shr) [q,.int .u64 6] λd3=>.op (.conv .u8) [d3] λd4=>.op (.int .and) [d4,.int .u8 63] λd5=>.op (.int .or) [.int .u8 128,d5] λd6=>.op (.conv .u8) [q] λd7=>.op (.int .and) [d7,.int .u8 63] λd8=>.op (.int .or) [.int .u8 128,d8] λd9=>.op (.Cb 1) [c8,d2,d6,d9] λe0=>.FC 1 1 p e0 λe1=>.rr [e1]) (.op (.Cb 1) [.int .u8 239,.int .u8 191,.int .u8 189] λe2=>.FC 1 1 p e2 λe3=>.rr [e3])) (.op (.Cb 1) [.int .u8 239,.int .u8 191,.int .u8 189] λe4=>.FC 1 1 p e4 λe5=>.rr [e5]))) (.ig [a,.int .u32 65535] λe6=>.AM e6 (.ik [a,.int .u32 1114111] λe7=>.AM e7 (.op (.int .shr) [q,.int .u64 18] λe8=>.op (.conv .u8) [e8] λe9=>.op (.int .or) [.int .u8 240,e9] λf0=>.op (.int .shr) [q,.int .u64 12] λf1=>.op (.conv .u8) [f1] λf2=>.op (.int .and) [f2,.int .u8 63] λf3=>.op (.int .or) [.int .u8 128,f3] λf4=>.op (.int .shr) [q,.int .u64 6] λf5=>.op (.conv .u8) [f5] λf6=>.op (.int .and) [f6,.int .u8 63] λf7=>.op (.int .or) [.int .u8 128,f7] λf8=>.op (.conv .u8) [q] λf9=>.op (.int .and) [f9,.int .u8 63] λh0=>.op (.int .or) [.int .u8 128,h0] λh1=>.op (.Cb 1) [f0,f4,f8,h1] λh2=>.FC 1 1 p h2 λh3=>.rr [h3]) (.op (.Cb 1) [.int .u8 239,.int .u8 191,.int .u8 189] λh4=>.FC 1 1 p h4 λh5=>.rr [h5])) (.op (.Cb 1) [.int .u8 239,.int .u8 191,.int .u8 189] λh6=>.FC 1 1 p h6 λh7=>.rr [h7]))))
def XJ:Gl cx 117 cy:=λ_ _=>AU
end Go.Am
