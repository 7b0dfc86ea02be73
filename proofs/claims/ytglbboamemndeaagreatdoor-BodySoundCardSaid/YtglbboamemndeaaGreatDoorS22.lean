/- Lemmas -/
import Derived.Test.YtglbboamemndeaaGreatDoorS19
set_option linter.all false
namespace Go.Am
open Go
def Vp:=λp q=>rd 111 [p,q] 0x231326e083c03c9b8130326e06c2c9b835993703611acdd9b80c50e0600107807903801c81c03b4c2989328a600d4202e55c14a821071083820e007435163cbf96f2be53cacd4d0c8eb8b081f0183c4085f3bc04cae6e03143810aca18ca60e63060e08d6247d2614f3c4308c2300c2041115990b04062ae65069f807041b12361 [.tuple [I 0,I 0],S aQu,S aQV,S aQU,S aQW,S [116,114]] [.part 0 none,.C2 [I 0,I 0,S [],ff] [(1,1),(2,1)]]
def dO:=λp q=>rd 112 [p,q] 0x69f1a7f7007dc01da614d44359104
def dQ:=λp q=>rd 113 [p,q] 0x180fc03808981900780640ee1356262659e3810a0c171311970410268f0463100427893
def dR:=λp q=>rd 114 [p,q] 0x28a32c80101197059acf33b093f03cd446b [.int .u32 127] [.conv .u32]
def dS:=λp q r=>rd 115 [p,q,r] 0xc241271fec4382984824e3fd9270513c03821bc3b00de21c163421fc3b00de02a8a19880701c118760a250a8b3
def dU:=λp q r=>rd 116 [p,q,r] 0x726e003b4c298a2c93323f886b [] [.C2 [I 0,I 0,.slnil,I 0,I 0,S [],.slnil,S [],S [],S [],ff,I 0,I 0] [(0,1),(7,1)]]
def dW:=λp q r=>rd 117 [p,q,r] 0x726e003b4c298a2c933237886b [] [.C2 [I 0,I 0,.slnil,I 0,I 0,S [],.slnil,S [],S [],S [],ff,I 0,I 0] [(0,1),(7,1)]]
def dX:=λp q r=>rd 118 [p,q,r] 0x18f73346ba8b330c8e
def dY:=λp q=>rd 119 [p,q] 0x13f018f73386b8b224a8e [.func (.func 138) [] []]
def dZ:=λp q=>rd 120 [p,q] 0x18f73446b8a340a8e
def Sn:=λp=>rd 121 [p] 0x86073e06f76010158486b [] [.Fe false .sl]
def eA:=λp=>rd 122 [p] 0x61f066231303c63589e [] [.C2 [I 0,S [],ff,S [],ff,S [],ff,ff,.slnil,ff,S [],.int .i32 0] [(0,1),(1,1),(8,1)]]
def Vq:=λp q=>rd 123 [p,q] 0xc7b9a435d3f0b224980404611818a1e0a8e [.func (.func 138) [] []]
def aC5(p q:Aa):IT:=
 .ie [p,I 3] λa=>.FH a (.se [q,S aQt] λb=>.FH b (.rr [tt]) (.Cb 211 [p,q] λc=>.rr [c])) (.ie [p,I 2] λd=>.FH d (.se [q,S aRW] λe=>.FH e (.rr [tt]) (.se [q,S aQL] λf=>.FH f (.rr [tt]) (.se [q,S aQq] λh=>.rr [h]))) (.ie [p,I 1] λj=>.FH j (swv q (.rr [tt]) (.rr [ff]) R5) (.rr [ff])))
def eB:Tq2 cx 124 aC5:=λ_ _=>C4
def eC:=λp=>rd 125 [p] 0x87c098243911543e04c03592841b12361 [] [.C2 [I 0,I 0,S [],ff] []]
def eD:=λp q=>rd 126 [p,q] 0x301f807011303200f00c81dc270c4c4cb3c702501806f130e58824884613b7a60c40209ee2184c4103f00e08ca0c3f00e082f0a73
def t127(p q:Aa):IT:=
 .fa p 3 λ_ a=>.ca 212 [a,q] λb=>.il [b,I 0] λc=>.FH c (.ca 56 [p,q] λ_=>.rr [ff]) (.fa p 3 λ_ d=>.fl d 0 λ_ e=>.ea 3 [e,b] λf=>.load (some 3) f λh=>.op (.C2 [I 0,S [],.slnil,I 0,I 0,I 0,I 0,S [],ff,I 0,I 0,S [],ff,I 0] [(0,3),(3,1),(4,1)]) [h,b,b] λj=>.alloc 14 j λk=>.fa k 0 λ_ m=>.fl m 0 λ_ n=>.fa p 2 λ_ o=>.ca 120 [o,n] λs=>.il [s,I 0] λu=>.FH u (.ca 213 [k,p,b] λ_=>.rr [ff]) (.ie [s,I 0] λw=>.FH w (.rr [ff]) (.fa p 2 λ_ y=>.ca 214 [y,I 1,n] λz=>.nt [z] λa0=>.FH a0 (.rr [ff]) (.fa p 2 λ_ a1=>.ca 215 [a1,n] λa2=>.il [a2,I 0] λa5=>.FH a5 (.fa p 2 λ_ a7=>.ca 123 [a7,n] λ_=>.ca 213 [k,p,b] λ_=>.rr [ff]) (.fa p 2 λ_ a8=>.ib [s,I 1] λb0=>.fa p 2 λ_ b1=>.ca 9 [a8,b0] λb2=>.ca 9 [b1,a2] λb3=>.fa k 5 λ_ b4=>.store 4 b4 b2 (.fa k 9 λ_ b5=>.store 4 b5 b3 (.fa k 9 λ_ b6=>.fl b6 0 λ_ b7=>.fa k 13 λ_ b8=>.store 1 b8 b7 (.ca 216 [p,k,s,a2] λ_=>.fa k 5 λ_ b9=>.fl b9 0 λ_ c0=>.ca 111 [p,c0] λc1=>.op (.ext 0) [c1] λc2=>.op (.ext 1) [c1] λc3=>.Yx k 13 λ_ _ c4=>.ca 103 [p,c4,c2,c3] λ_=>.fa k 0 λ_ c5=>.load (some 3) c5 λc6=>.fa k 9 λ_ c7=>.fl c7 0 λc8 c9=>.ca 122 [c6] λd0=>.ld c8 λd1=>.same c9 d1 (.ca 67 [p,d0,I 1,c9] λd2=>.cells 4 d2 λd3=>.Yx p 0 λ_ _ d4=>.fa k 9 λ_ d5=>.fl d5 0 λ_ d6=>.ca 193 [d4,d6] λd7=>.ln [d7] λd8=>.loop 25 [I 0] (λd9=>.il [g d9 0,d8] λe0=>.FH e0 (.ea 1 [d7,g d9 0] λe1=>.ld e1 λe2=>.ca 103 [p,e2,g d3 0,I 0] λ_=>.ia [g d9 0,I 1] λe3=>.rn [e3]) (.rx 0 [g d9 0])) (lx 0 (λe4=>.fa k 9 λ_ e5=>.fl e5 0 λ_ e6=>.ca 103 [p,g d3 0,e6,I 0] λ_=>.Yx k 3 λ_ _ e7=>.ca 213 [k,p,e7] λ_=>.fa p 3 λ_ e8=>.fa k 0 λ_ e9=>.fl e9 1 λ_ f0=>.fa k 0 λ_ f1=>.fl f1 2 λ_ f2=>.op (.C2 [I 0,S [],.slnil] [(0,1),(1,1),(2,1)]) [g d3 0,f0,f2] λf3=>.Yx k 4 λ_ _ f4=>.ca 217 [e8,f3,f4] λ_=>.fa p 2 λ_ f5=>.ca 156 [f5,n] λ_=>.fa p 2 λ_ f6=>.fa p 2 λ_ f7=>.fa k 9 λ_ f8=>.fl f8 0 λ_ f9=>.ca 120 [f7,f9] λh0=>.ia [h0,I 1] λh1=>.ca 218 [f6,a4 d3,h1] λ_=>.rr [tt]) λe4=>.rr [ff]))))))))))
def ME:Tq2 cx 127 t127:=λ_ _=>C4
def eE:=λp q r=>rd 128 [p,q,r] 0x26064dc0d859370ce0be26e0d20cac58e21e01e4dc3382f89b834832b16382f89b834837bc1df00e08c0313c44084fe86a2e7859b7e01c03408d7497f0841c1073487322084be86a2d7859ba01095d9f0904dc02e007196e0cf0c4d1682301cc262693a1097d0d458f0b35fc03806833b85e7bf8420e0839a439910423f43515bcaf899bf80995e41371228dc25a108fd0d454f0b3122e091898198078361660ee2b56572133cf21084be86a2062cc2c10f918272978c10468c10d984630084f09836caa6 [S aQQ,S [116,100],S [116,104],.tuple [I 15,tt],S aQh,.tuple [I 7,tt],S aQj,.tuple [I 4,tt],S aQg,.tuple [I 3,tt],.tuple [I 6,tt]]
def Vr:=λp q=>rd 129 [p,q] 0xc5b514621
def eF:=λp q=>rd 130 [p,q] 0x1000262d42de4e1180c189e
def eI:=λp q r=>rd 131 [p,q,r] 0xc043824e37d9070503c03820d80769853926e913c038207c3b00de02a8a19880701c118760a250a8b3
def eJ:=λp q=>rd 132 [p,q] 0x18f73786b8a340a8e
def eK:=λp=>rd 133 [p] 0x13f25e16449 [.func (.func 223) [] [],.func (.func 138) [] []]
def eL:=λp q r=>rd 134 [p,q,r] 0x3981e39123ac00e6078ccf89bd96303c722435a9e [] [.PU 3 false false true,.PU 3 false true false]
def eM:=λp=>rd 135 [p] 0x21f026050125c4312041
def eO:=λp=>rd 136 [p] 0x600602c0818807818807820ee0386441187601bc00e72dc070c412742301873db020109e13104
def eP:=λp q r=>rd 137 [p,q,r] 0x600602c081880781880782710704e201e3611228e24402e0356f4106c514712439cf09c07312041046e610084f
def eQ:=λp=>rd 138 [p] 0x80a6
def eR:=λp q=>rd 139 [p,q] 0x10fa230a8b8a6
def eS:=λp q=>rd 140 [p,q] 0x40046a8c62421384c18a6
def aC6(p q:Aa):IT:=
 .O1 λa=>.op (.C2 [I 0,S [],S []] [(0,1),(1,1)]) [I 4,S aRL] λb=>.Kc a (S aQ4) b (.op (.C2 [I 0,S [],S []] [(0,1),(1,1)]) [I 4,S aRI] λc=>.Kc a (S aQ2) c (.op (.C2 [I 0,S [],S []] [(0,1),(1,1)]) [I 4,S aSa] λd=>.Kc a (S aRe) d (.op (.C2 [I 0,S [],S []] [(0,1),(1,1)]) [I 4,S aSb] λe=>.Kc a (S aRf) e (.op (.C2 [I 0,S [],S []] [(0,1),(1,1)]) [I 4,S aSc] λf=>.Kc a (S aRg) f (.op (.C2 [I 0,S [],S []] [(0,1),(1,1)]) [I 4,S aQq] λh=>.Kc a (S aQ7) h (.op (.C2 [I 0,S [],S []] [(0,1),(1,1)]) [I 4,S aRj] λj=>.Kc a (S aRh) j (.op (.C2 [I 0,S [],S []] [(0,1),(1,1)]) [I 5,S [108,97,110,103]] λk=>.Kc a (S aRy) k (.op (.C2 [I 0,S [],S []] [(0,1),(1,1)]) [I 5,S aR4] λm=>.Kc a (S aRq) m (.op (.C2 [I 0,S [],S []] [(0,1),(1,1)]) [I 6,S aRb] λn=>.Kc a (S aRb) n (.op (.C2 [I 0,S [],S []] [(0,1),(1,1)]) [I 6,S aRY] λo=>.Kc a (S aQ8) o (.ln [q] λs=>.loop 4 [.slnil,I 0] (λu=>.il [g u 1,s] λw=>.FH w (.ea 3 [q,g u 1] λy=>.load (some 3) y λz=>.cells 3 z λa0=>.op (.C2 [I 0,S [],S []] [(1,1),(2,1)]) [g a0 1,g a0 2] λa1=>.cells 3 a1 λa2=>.ie [p,I 2] λa5=>.OR 100036 (.FH a5 (.Cb 225 [g a0 1] λa7=>.cells 1 a7 λa8=>.rn [.agg [g a2 0,g a8 0,g a2 2]]) (.OR 200009 (.ie [p,I 3] λb0=>.FH b0 (.se [g a0 1,S aRp] λb1=>.rn [b1]) (.rn [ff])) (λx b2=>match x with| .normal=>.OR 100043 (.FH (g b2 0) (.cells 1 (S aRr) λb3=>.rn [.agg [g a2 0,g b3 0,g a2 2]]) (.rn [a3 a2])) (λx b4=>.cells 3 (g b4 0) λb5=>.ret x [a3 b5])| .exit i=>.ret (.exit i) [a3 a2]| .ret=>.rr [a3 a2]))) (λx b6=>.cells 3 (g b6 0) λb7=>match x with| .normal=>.LO (.agg [I 0,S [],S []]) true a (g b7 1) λb8=>.op (.ext 0) [b8] λb9=>.op (.ext 1) [b8] λc0=>.cells 3 b9 λc1=>.OR 200012 (.FH c0 (.ie [p,I 2] λc2=>.FH c2 (.rn [tt]) (.ie [p,I 3] λc3=>.rn [c3])) (.rn [ff])) (λx c4=>match x with| .normal=>.OR 100067 (.FH (g c4 0) (.cells 1 (g c1 0) λc5=>.cells 1 (g c1 1) λc6=>.rn [.agg [g c5 0,g c6 0,g b7 2]]) (.rn [a3 b7])) (λx c7=>.cells 3 (g c7 0) λc8=>match x with| .normal=>.op (.DX 3) [a3 c8] λc9=>.op (.append 3 40) [g u 0,c9] λd0=>.ia [g u 1,I 1] λd1=>.rn [d0,d1]| .exit i=>if i=1 then .ia [g u 1,I 1] λd2=>.rn [g u 0,d2] else .ret (.exit i) [g u 0,g u 1]| .ret=>.rr [g u 0,g u 1])| .exit i=>if i=1 then .ia [g u 1,I 1] λd3=>.rn [g u 0,d3] else .ret (.exit i) [g u 0,g u 1]| .ret=>.rr [g u 0,g u 1])| .exit i=>if i=2 then .LO (.agg [I 0,S [],S []]) true a (g b7 1) λd4=>.op (.ext 0) [d4] λd5=>.op (.ext 1) [d4] λd6=>.cells 3 d5 λd7=>.OR 200012 (.FH d6 (.ie [p,I 2] λd8=>.FH d8 (.rn [tt]) (.ie [p,I 3] λd9=>.rn [d9])) (.rn [ff])) (λx e0=>match x with| .normal=>.OR 100067 (.FH (g e0 0) (.cells 1 (g d7 0) λe1=>.cells 1 (g d7 1) λe2=>.rn [.agg [g e1 0,g e2 0,g b7 2]]) (.rn [a3 b7])) (λx e3=>.cells 3 (g e3 0) λe4=>match x with| .normal=>.op (.DX 3) [a3 e4] λe5=>.op (.append 3 40) [g u 0,e5] λe6=>.ia [g u 1,I 1] λe7=>.rn [e6,e7]| .exit i=>if i=1 then .ia [g u 1,I 1] λe8=>.rn [g u 0,e8] else .ret (.exit i) [g u 0,g u 1]| .ret=>.rr [g u 0,g u 1])| .exit i=>if i=1 then .ia [g u 1,I 1] λe9=>.rn [g u 0,e9] else .ret (.exit i) [g u 0,g u 1]| .ret=>.rr [g u 0,g u 1]) else if i=1 then .ia [g u 1,I 1] λf0=>.rn [g u 0,f0] else .ret (.exit i) [g u 0,g u 1]| .ret=>.rr [g u 0,g u 1])) (.rx 0 [g u 0,g u 1])) (lx 0 (λf1=>.rr [g f1 0]) λf1=>.rr [.slnil]))))))))))))
def eT:Tq2 cx 141 aC6:=λ_ _=>C4
def aC7(p:Aa):IT:=
 .Cb 226 [p,S aQc] λa=>.rr [a]
def eU:yq cx 142 aC7:=λ_=>C4
def Vs:=λp q r u w=>rd 143 [p,q,r,u,w] 0x18139370620e4dc067049cbfb014438a19882865204703c675a8a394e10413908286620a194887d9507ca35ade01c106c27199166b7807041b00ed30a6af89ba403989b81e08c3b514491 [.tuple [I 0,I 2]] [.C2 [I 0,I 0,.slnil,I 0,I 0,S [],.slnil,S [],S [],S [],ff,I 0,I 0] [(0,1),(3,1),(4,1),(5,1),(6,1)],.C2 [I 0,I 0,.slnil,I 0,I 0,S [],.slnil,S [],S [],S [],ff,I 0,I 0] [(0,1),(12,1),(3,1)]]
def Vt:=λp q=>rd 144 [p,q] 0x861980b08c66ec02186602c2319bb37598a1c0b1846b3766e514381
def Vu:=λp=>rd 145 [p] 0x20a384e6200704e6cd6f2de473957ca791ce53f25e4739 [.int .i32 9,.int .i32 10,.int .i32 12,.int .i32 13,.int .i32 32]
def eV:=λp q=>rd 146 [p,q] 0xc04f00e09c3b00de02a8a19880701c118760a250a8b3
def Vv:=λp q r=>rd 147 [p,q,r] 0x304dc65ddd5cdc5bdb5ada581958d85e971432951c01cc4dc0f0461da8a248cee
def eW:=λp q=>rd 148 [p,q] 0x306010044c0c803c03207709ab13d1678c841b050c44171351972210268f4063100827a937008082f0a73
def Vw:=λp q=>rd 150 [p,q] 0x281812707ed7382847049c2fb28e0a08700ece92e0ceac13788705510e2413780a0a198816f10e0aa0101180605bc05514331
def eX:=λp q=>rd 152 [p,q] 0x38b513b0fc44ec3f
def eY:=λp q=>rd 153 [p,q] 0x80042260fc00e435897351b7ae04007b625cc2e6a36f [] [.PU 0 true false true]
def eZ:=λp q=>rd 154 [p,q] 0xc5b514769
def Vx:=λp q=>rd 155 [p,q] 0x4463152771
def Vy:=λp q=>rd 156 [p,q] 0x24013824e20a19c4779104100809c235143c1
def fA:=λp q r=>rd 157 [p,q,r] 0xa0a010040c403c107701ab905fc170304e32d70200d1c98c20089e1352771
def fB:=λp=>rd 158 [p] 0x11d0364c1f10d104
def fC:=λp=>rd 159 [p] 0xc7b9e035c08e
def fD:=λp=>rd 160 [p] 0xa00474179307c43441021b1104
def So:=λp=>rd 161 [p] 0x50023a0bc983e21a208a00474179307c4344114008e82f260f886882044020a8823984462789ff504e13062608fa441021b1104
def fE:=λp=>rd 162 [p] 0x14040938ea2092049c8d10412501
def fF:=λp=>rd 163 [p] 0xa00474191307c43441021b9104
def fG:=λp=>rd 164 [p] 0x14040938ea20810f883a2080474179307c43441021b9104
def KG:=λp=>rd 165 [p] 0x14040938ea2080474279307c43441021b9104501024e3a882011d09e4c1f10d104086e44118f024e0fd886e284bf8438b501024e3a882011d09e4c1f10d104502ce0938ea2080474279307c4344102791307c4369861d043722080a7c4b78338b504ce0938ea2080474279307c434411e8257c11c5a8247049c75104023a13c983e21a208f4129e04e2d4113824e3a882011d09e4c1f10d1047a093f00716a02049c75104023a13c983e21a20810d888249049781605bc43474104 [S [104,114],S aRP,S aRv,S aRQ,S aRF,S aRJ,S aRV]
def fH:=λp=>rd 166 [p] 0x10
def Ok:=λp=>rd 167 [p] 0x286808ec35260f886882286808ec35260f886882081271d4411e4257c11c5a86808ec35260f886882081271d441021b9104086c4412d4253c09c5a8081271d4412409391a20807808ec35260f88688254049f8038b501fc09392a20824a0296125e05816f10d [S aQ6,S aRc,S aR9,S aRw]
def Qf:=λp=>rd 168 [p] 0x14008e82f260f88688228011d05e4c1f10d10423c21dc82a208a00474179307c4344114f087720a8823f04af81605bc4354008e82f260f88688229e10ee4151047e093f02c0b788683e9125e14799 [S aRn,S [114,112],S aRD,S [114,116]]
def Qg:=λp=>rd 169 [p] 0xa0a0110082a208601096f10d03c0476189307c43441021b91045050088041510430084b7886e808ec31260f886882043722098e125e05816f10d [S aRK]
def fI:=λp=>rd 170 [p] 0x282828092808e0103100f00f001e36e083b803e193071c1077007c326163817802f1b7041dc05f0c9838e083b80be1930b1c1077017c302f100f1c01ae42b2fe1083820e23608386d4f1591367e801386c1be04563643e1fe080a95c03c403cacac59e85000682cf8483bf8420e0838079191367e701384c1b580895c4c06202482a2081e3c4603b6203c10144f710c2041054410499897841d3f0838b8478041574bc47302de21a2049c75104 [S [108,105],S aR2,S aRt]
def Vz:=λp=>rd 171 [p] 0x28011d05e4c1f10d104086e44114008e82f260f88688204372208110082a20922125e11ea423e9104 [S aQx]
def Ol:=λp=>rd 172 [p] 0xa0a059c08ec3b260f886882081271d4411fc200ed30a624f62a01072cec3b209c46b0a3af94717063af8c7c1f3080920a882183e21a209e0125e05816f10d500808c03081041510450080822b9104 [S aQg] [.part 0 none]
def Sp:=λp=>rd 173 [p] 0x50504bc09384a2080474179307c434411e808007803844020a8821a04e039840820a88246000313ce388f72020822804041b1d0411402020d80769853127b1 [I 20]
def Qh:=λp=>rd 174 [p] 0x505014e09388a2086e1227360474179307c43441021b1104505014e09388a2086e1247360474179307c43441021b1104500808639be808c3b11041022b9104
def VA:=λp=>rd 175 [p] 0x28081271d441008e82f260f88688204372208a02049c75104023a0bc983e21a20810dc88211e4bc2cf4378125e14799 [S aQi]
def VB:=λp=>rd 176 [p] 0x140494654049464e3889c20a88210711f041d1044bc20e4882006f1ce1cb00de0e8827b8462da5e11a841d104 [S [97]]
end Go.Am
