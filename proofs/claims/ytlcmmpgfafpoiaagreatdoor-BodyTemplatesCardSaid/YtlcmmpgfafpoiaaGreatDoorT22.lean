/- Lemmas -/
import Derived.Test.YtlcmmpgfafpoiaaGreatDoorT19
set_option linter.all false
namespace Go.Am
open Go
def gC:=λp q=>rd 174 [p,q] 0x28a50480101197059acf33b093f03cd446b [.int .u32 127] [.conv .u32]
def gD:=λp q r=>rd 175 [p,q,r] 0xc241271fec4382984824e3fd9270513c03821bc3b00de21c163421fc3b00de02a8a26480701c118760a3b0a8b3
def gE:=λp q r=>rd 176 [p,q,r] 0x726e003b4c298a2ceb323f886b [] [.Cn [I 0,I 0,.slnil,I 0,I 0,S [],.slnil,S [],S [],S [],ff,I 0,I 0] [(0,1),(7,1)]]
def gF:=λp q r=>rd 177 [p,q,r] 0x726e003b4c298a2ceb3237886b [] [.Cn [I 0,I 0,.slnil,I 0,I 0,S [],.slnil,S [],S [],S [],ff,I 0,I 0] [(0,1),(7,1)]]
def gG:=λp q r=>rd 178 [p,q,r] 0x18f750c6ba8b508c8e
def gH:=λp q=>rd 179 [p,q] 0x13f018f75106b8b31ca8e [.func (.func 200) [] []]
def gI:=λp q=>rd 180 [p,q] 0x18f751c6b8a518a8e
def SY:=λp=>rd 181 [p] 0x86073e06f76010158486b [] [.Gd false .sl]
def gJ:=λp=>rd 182 [p] 0x61f066231303c63589e [] [.Cn [I 0,S [],ff,S [],ff,S [],ff,ff,.slnil,ff,S [],.int .i32 0] [(0,1),(1,1),(8,1)]]
def gK:=λp=>rd 183 [p] 0x131043008082f0a73
def gL:=λp q=>rd 184 [p,q] 0x87c09841f512588221f02601ac94216d892dca1f02601ac94232a3 [] [.Cn [I 0,I 0,S [],ff] []]
def Wn:=λp q=>rd 185 [p,q] 0xc7ba9035d3f0b31c980404611818a2d0a8e [.func (.func 200) [] []]
def aGv(p q:Aa):IT:=
 .ie [p,I 3] λa=>.Gg a (.se [q,S aT1] λb=>.Gg b (.rr [tt]) (.B7 329 [p,q] λc=>.rr [c])) (.ie [p,I 2] λd=>.Gg d (.se [q,S aUR] λe=>.Gg e (.rr [tt]) (.se [q,S aUf] λf=>.Gg f (.rr [tt]) (.se [q,S aT2] λh=>.rr [h]))) (.ie [p,I 1] λj=>.Gg j (swv q (.rr [tt]) (.rr [ff]) NR) (.rr [ff])))
def gM:Tq2 cx 186 aGv:=λ_ _=>Dg
def gN:=λp=>rd 187 [p] 0x87c098262911543e04c03592841b12491 [] [.Cn [I 0,I 0,S [],ff] []]
def gO:=λp q=>rd 188 [p,q] 0x301f807011303200f00c81dc270c4c4cb3c702501806f130e58824884613b7a60c40209ee2184c4103f00e08ca0c3f00e082f0a73
def uR(p q:Aa):IT:=
 .fa p 3 λ_ a=>.ca 330 [a,q] λb=>.il [b,I 0] λc=>.Gg c (.ca 74 [p,q] λ_=>.rr [ff]) (.fa p 3 λ_ d=>.fl d 0 λ_ e=>.ea 3 [e,b] λf=>.load (some 3) f λh=>.op (.Cn [I 0,S [],.slnil,I 0,I 0,I 0,I 0,S [],ff,I 0,I 0,S [],ff,I 0] [(0,3),(3,1),(4,1)]) [h,b,b] λj=>.alloc 14 j λk=>.fa k 0 λ_ m=>.fl m 0 λ_ n=>.fa p 2 λ_ o=>.ca 180 [o,n] λs=>.il [s,I 0] λu=>.Gg u (.ca 331 [k,p,b] λ_=>.rr [ff]) (.ie [s,I 0] λw=>.Gg w (.rr [ff]) (.fa p 2 λ_ y=>.ca 332 [y,I 1,n] λz=>.nt [z] λa0=>.Gg a0 (.rr [ff]) (.fa p 2 λ_ a1=>.ca 333 [a1,n] λa2=>.il [a2,I 0] λa5=>.Gg a5 (.fa p 2 λ_ a7=>.ca 185 [a7,n] λ_=>.ca 331 [k,p,b] λ_=>.rr [ff]) (.fa p 2 λ_ a8=>.ib [s,I 1] λb0=>.fa p 2 λ_ b1=>.ca 184 [a8,b0] λb2=>.ca 184 [b1,a2] λb3=>.fa k 5 λ_ b4=>.store 4 b4 b2 (.fa k 9 λ_ b5=>.store 4 b5 b3 (.fa k 9 λ_ b6=>.fl b6 0 λ_ b7=>.fa k 13 λ_ b8=>.store 1 b8 b7 (.ca 334 [p,k,s,a2] λ_=>.fa k 5 λ_ b9=>.fl b9 0 λ_ c0=>.ca 171 [p,c0] λc1=>.op (.ext 0) [c1] λc2=>.op (.ext 1) [c1] λc3=>.PM k 13 λ_ _ c4=>.ca 159 [p,c4,c2,c3] λ_=>.fa k 0 λ_ c5=>.load (some 3) c5 λc6=>.fa k 9 λ_ c7=>.fl c7 0 λc8 c9=>.ca 182 [c6] λd0=>.ld c8 λd1=>.same c9 d1 (.ca 85 [p,d0,I 1,c9] λd2=>.cells 4 d2 λd3=>.PM p 0 λ_ _ d4=>.fa k 9 λ_ d5=>.fl d5 0 λ_ d6=>.ca 306 [d4,d6] λd7=>.ln [d7] λd8=>.loop 25 [I 0] (λd9=>.il [g d9 0,d8] λe0=>.Gg e0 (.ea 1 [d7,g d9 0] λe1=>.ld e1 λe2=>.ca 159 [p,e2,g d3 0,I 0] λ_=>.ia [g d9 0,I 1] λe3=>.rn [e3]) (.rx 0 [g d9 0])) (lx 0 (λe4=>.fa k 9 λ_ e5=>.fl e5 0 λ_ e6=>.ca 159 [p,g d3 0,e6,I 0] λ_=>.PM k 3 λ_ _ e7=>.ca 331 [k,p,e7] λ_=>.fa p 3 λ_ e8=>.fa k 0 λ_ e9=>.fl e9 1 λ_ f0=>.fa k 0 λ_ f1=>.fl f1 2 λ_ f2=>.op (.Cn [I 0,S [],.slnil] [(0,1),(1,1),(2,1)]) [g d3 0,f0,f2] λf3=>.PM k 4 λ_ _ f4=>.ca 335 [e8,f3,f4] λ_=>.fa p 2 λ_ f5=>.ca 244 [f5,n] λ_=>.fa p 2 λ_ f6=>.fa p 2 λ_ f7=>.fa k 9 λ_ f8=>.fl f8 0 λ_ f9=>.ca 180 [f7,f9] λh0=>.ia [h0,I 1] λh1=>.ca 336 [f6,a4 d3,h1] λ_=>.rr [tt]) λe4=>.rr [ff]))))))))))
def M8:Tq2 cx 189 uR:=λ_ _=>Dg
def gP:=λp q r=>rd 190 [p,q,r] 0x26064dc0d859370ce0be26e0d20cac58e21e01e4dc3382f89b834832b16382f89b834837bc1df00e08c0313c44084fe8a22e7859b7e01c03408d7497f0841c1073487322084be8a22d7859ba01095d9f0904dc02e007196e0cf0c4d1682301cc262693a1097d14458f0b35fc03806833b85e7bf8420e0839a439910423f45115bcaf899bf80995e413712295225a108fd14454f0b3122e091898198078361660ee2b56572133cf21084be8a22062cc2c10f918272978c10468c10d984630084f098544aa6 [S aUE,S [116,100],S [116,104],.tuple [I 15,tt],S aTR,.tuple [I 7,tt],S aTY,.tuple [I 4,tt],S aTT,.tuple [I 3,tt],.tuple [I 6,tt]]
def Wo:=λp q=>rd 191 [p,q] 0xc5b5149a9
def gQ:=λp q=>rd 192 [p,q] 0x1000262d42de4e1180c189e
def gR:=λp q r=>rd 193 [p,q,r] 0xc043824e37d9070503c03820d8076985392a9913c038207c3b00de02a8a26480701c118760a3b0a8b3
def gS:=λp q=>rd 194 [p,q] 0x18f75506b8a518a8e
def gT:=λp=>rd 195 [p] 0x13f25e16639 [.func (.func 341) [] [],.func (.func 200) [] []]
def gU:=λp q r=>rd 196 [p,q,r] 0x3981e39123ac00e6078ccf89bd96303c722435a9e [] [.KK 3 false false true,.KK 3 false true false]
def gV:=λp=>rd 197 [p] 0x21f026051705c43125b9
def gW:=λp=>rd 198 [p] 0x600602c0818807818807820ee0386441187601bc00e72dc070c412742301873db020109e13104
def gX:=λp q r=>rd 199 [p,q,r] 0x600602c081880781880782710704e201e3611228e24522e0356f4106c514712629cf09c073125b9046e610084f
def gY:=λp=>rd 200 [p] 0x80a6
def gZ:=λp q=>rd 201 [p,q] 0x10fa328a8b8a6
def hC:=λp q=>rd 202 [p,q] 0x40046a9372421384c18a6
def aGw(p q:Aa):IT:=
 .Pm λa=>.op (.Cn [I 0,S [],S []] [(0,1),(1,1)]) [I 4,S aUN] λb=>.KE a (S aUh) b (.op (.Cn [I 0,S [],S []] [(0,1),(1,1)]) [I 4,S aUL] λc=>.KE a (S aUg) c (.op (.Cn [I 0,S [],S []] [(0,1),(1,1)]) [I 4,S aUX] λd=>.KE a (S aUt) d (.op (.Cn [I 0,S [],S []] [(0,1),(1,1)]) [I 4,S aUY] λe=>.KE a (S aUu) e (.op (.Cn [I 0,S [],S []] [(0,1),(1,1)]) [I 4,S aUZ] λf=>.KE a (S aUv) f (.op (.Cn [I 0,S [],S []] [(0,1),(1,1)]) [I 4,S aT2] λh=>.KE a (S aUl) h (.op (.Cn [I 0,S [],S []] [(0,1),(1,1)]) [I 4,S aUQ] λj=>.KE a (S aUw) j (.op (.Cn [I 0,S [],S []] [(0,1),(1,1)]) [I 5,S [108,97,110,103]] λk=>.KE a (S aUA) k (.op (.Cn [I 0,S [],S []] [(0,1),(1,1)]) [I 5,S aUV] λm=>.KE a (S aUn) m (.op (.Cn [I 0,S [],S []] [(0,1),(1,1)]) [I 6,S aUp] λn=>.KE a (S aUp) n (.op (.Cn [I 0,S [],S []] [(0,1),(1,1)]) [I 6,S aUH] λo=>.KE a (S aUc) o (.ln [q] λs=>.loop 4 [.slnil,I 0] (λu=>.il [g u 1,s] λw=>.Gg w (.ea 3 [q,g u 1] λy=>.load (some 3) y λz=>.cells 3 z λa0=>.op (.Cn [I 0,S [],S []] [(1,1),(2,1)]) [g a0 1,g a0 2] λa1=>.cells 3 a1 λa2=>.ie [p,I 2] λa5=>.Oc 100036 (.Gg a5 (.B7 343 [g a0 1] λa7=>.cells 1 a7 λa8=>.rn [.agg [g a2 0,g a8 0,g a2 2]]) (.Oc 200009 (.ie [p,I 3] λb0=>.Gg b0 (.se [g a0 1,S aUy] λb1=>.rn [b1]) (.rn [ff])) (λx b2=>match x with| .normal=>.Oc 100043 (.Gg (g b2 0) (.cells 1 (S aUC) λb3=>.rn [.agg [g a2 0,g b3 0,g a2 2]]) (.rn [a3 a2])) (λx b4=>.cells 3 (g b4 0) λb5=>.ret x [a3 b5])| .exit i=>.ret (.exit i) [a3 a2]| .ret=>.rr [a3 a2]))) (λx b6=>.cells 3 (g b6 0) λb7=>match x with| .normal=>.Mj (.agg [I 0,S [],S []]) true a (g b7 1) λb8=>.op (.ext 0) [b8] λb9=>.op (.ext 1) [b8] λc0=>.cells 3 b9 λc1=>.Oc 200012 (.Gg c0 (.ie [p,I 2] λc2=>.Gg c2 (.rn [tt]) (.ie [p,I 3] λc3=>.rn [c3])) (.rn [ff])) (λx c4=>match x with| .normal=>.Oc 100067 (.Gg (g c4 0) (.cells 1 (g c1 0) λc5=>.cells 1 (g c1 1) λc6=>.rn [.agg [g c5 0,g c6 0,g b7 2]]) (.rn [a3 b7])) (λx c7=>.cells 3 (g c7 0) λc8=>match x with| .normal=>.op (.C8 3) [a3 c8] λc9=>.op (.append 3 40) [g u 0,c9] λd0=>.ia [g u 1,I 1] λd1=>.rn [d0,d1]| .exit i=>if i=1 then .ia [g u 1,I 1] λd2=>.rn [g u 0,d2] else .ret (.exit i) [g u 0,g u 1]| .ret=>.rr [g u 0,g u 1])| .exit i=>if i=1 then .ia [g u 1,I 1] λd3=>.rn [g u 0,d3] else .ret (.exit i) [g u 0,g u 1]| .ret=>.rr [g u 0,g u 1])| .exit i=>if i=2 then .Mj (.agg [I 0,S [],S []]) true a (g b7 1) λd4=>.op (.ext 0) [d4] λd5=>.op (.ext 1) [d4] λd6=>.cells 3 d5 λd7=>.Oc 200012 (.Gg d6 (.ie [p,I 2] λd8=>.Gg d8 (.rn [tt]) (.ie [p,I 3] λd9=>.rn [d9])) (.rn [ff])) (λx e0=>match x with| .normal=>.Oc 100067 (.Gg (g e0 0) (.cells 1 (g d7 0) λe1=>.cells 1 (g d7 1) λe2=>.rn [.agg [g e1 0,g e2 0,g b7 2]]) (.rn [a3 b7])) (λx e3=>.cells 3 (g e3 0) λe4=>match x with| .normal=>.op (.C8 3) [a3 e4] λe5=>.op (.append 3 40) [g u 0,e5] λe6=>.ia [g u 1,I 1] λe7=>.rn [e6,e7]| .exit i=>if i=1 then .ia [g u 1,I 1] λe8=>.rn [g u 0,e8] else .ret (.exit i) [g u 0,g u 1]| .ret=>.rr [g u 0,g u 1])| .exit i=>if i=1 then .ia [g u 1,I 1] λe9=>.rn [g u 0,e9] else .ret (.exit i) [g u 0,g u 1]| .ret=>.rr [g u 0,g u 1]) else if i=1 then .ia [g u 1,I 1] λf0=>.rn [g u 0,f0] else .ret (.exit i) [g u 0,g u 1]| .ret=>.rr [g u 0,g u 1])) (.rx 0 [g u 0,g u 1])) (lx 0 (λf1=>.rr [g f1 0]) λf1=>.rr [.slnil]))))))))))))
def hZ:Tq2 cx 203 aGw:=λ_ _=>Dg
def aGx(p:Aa):IT:=
 .B7 344 [p,S aTP] λa=>.rr [a]
def iA:M_ cx 204 aGx:=λ_=>Dg
def Wp:=λp q r u w=>rd 205 [p,q,r,u,w] 0x18139370620e4dc067049cbfb014438a2648289e204703c675a8a56ce10415688289920a278887d9507ca35ade01c106c2ac99166b7807041b00ed30a6af8aa6403989b81e08c3b514751 [.tuple [I 0,I 2]] [.Cn [I 0,I 0,.slnil,I 0,I 0,S [],.slnil,S [],S [],S [],ff,I 0,I 0] [(0,1),(3,1),(4,1),(5,1),(6,1)],.Cn [I 0,I 0,.slnil,I 0,I 0,S [],.slnil,S [],S [],S [],ff,I 0,I 0] [(0,1),(12,1),(3,1)]]
def Wq:=λp q=>rd 206 [p,q] 0x861980b08c66ec02186602c2319bb37598a2b0b1846b3766e514561
def Ē:=λp=>rd 207 [p] 0x20017c23cc7c230db
def ē:=λp q=>rd 208 [p,q] 0x46264dc158d937041e21e4dc09819370609b816de066cb0104113c253c062ce83440c1640e00720700ed30a6255c298034f20815705a60841c1074fc062ce826a10be3000695c215863298398c1838235893749853cf10c2308c030988a480570025573283 [S aT3,S aTR] [.part 0 none]
def Ĕ:=λp q=>rd 209 [p,q] 0x6f53658082086010106d448c9104
def ĕ:=λp=>rd 210 [p] 0x400af84798f84a786d88015f08f31f094f0db9008093f08f37b092f0db [.int .i32 0,.int .i32 55295,.int .i32 57344,.int .i32 1114111]
def Ė:=λp=>rd 211 [p] 0x4718e51d1993cc4bcad4f1a725ac9e625e56a7825ad4f12723ac9e625e56a7825ad7f0a723ac9e635e56cf82391d600238c73664f312f2b53c49c96b27989795a9e096b53c29c8eb2798c795afe08e475822512de04e8c00472664f312f2b53c21c96b2798af95a9e04e475d3849f803a3002cc03cf328092f08c446b [I 128,I 2048,I 64,I 192,I 65536,I 4096,I 224,I 262144,I 240] [.conv .i64,.int .quo,.int .rem]
def yY:=λp q=>rd 212 [p,q] 0x582071826f53658825804041b5148c9
def ė:=λp q=>rd 213 [p,q] 0x180fc03808981900780640ee1356262659e381280c171311970410268c49e60c620084f
def Ę:=λp q=>rd 214 [p,q] 0x86001b7a9b2c041043b09448c9104
def ę:=λp q r=>rd 215 [p,q,r] 0x60402008981900780640ee135601903b84d589c8b3c64251316ae9710a446d1107c4c525f20409a31260974c220084f
def Ě:=λp q r=>rd 216 [p,q,r] 0xb43808703147292b0206201e083b82e1820ee0b8616201e30106c8c55f3f6f4a041dc170c107705c30b100f180836462af9fb7a50588078c04a462c2c403c6020d918abc7e093c526c2c403c602709bb13083e0a4b701c3097627018730a86080427893
def ě:=λp q=>rd 217 [p,q] 0x62d81891c222920101180c1a9e
def Ĝ:=λp q=>rd 218 [p,q] 0x181008022606401e01903b84d589c8b3c6422b0582e26a32e0c204d1a93cd18440209e20101384dd8a6
def yZ:=λp q=>rd 219 [p,q] 0x4380714729010e0a3948933008c235148e1
def ĝ:=λp q=>rd 220 [p,q] 0x400ab7888b3f2a080f08302be517201012a9e222cfd582d08302a7e222cfca827083 [S aTO,S aUi,S aT1,S aT4]
def Ğ:=λp=>rd 221 [p] 0x87c0982b01114
def ğ:=λp q=>rd 222 [p,q] 0x3003016044c0c803c03207709ab00c81dc26ac13207709ab2a0940601bc4c4e5ca846577ba10268c49824f307e200c4f
def Ġ:=λp=>rd 223 [p] 0x43828e52e21893
def QE:=λp q=>rd 224 [p,q] 0x4040424013824e22a25f14ed652e00eac10ebe21c5f23891c222822811c12711500ed30a609e222888a027049c4740c00ec64249e29e01e67588e0278a58883bf123883820ee48f0c9424a150aba271181788de223860b58e420488205a7040c403c107701ab301609e1024170310e32c41200200d184f00610604f48e2350882098e3b8183412b1b03c635819c038c2988076985308e28d0201da614c34e91dc38d590806f003a4b71c78622801bc33892c450402c52c4413824e22a16236c88a378461185896322282010034330c041cc29c1c841c4420d81b86929114780152b88018a588920461181891c22281e0c7c33872c47041450bc4802308d44b0911c [] [.Cn [I 0,S [],ff,S [],ff,S [],ff,ff,.slnil,ff,S [],.int .i32 0] [(0,1),(1,1),(8,1)],.Cn [I 0,S [],.slnil] [(0,1),(1,1),(2,1)]]
def zA:=λp q r u=>rd 225 [p,q,r,u] 0x1a2f89b8d17c4dc5de16f8070460189e22056788c5d7e01c155e231737807054f88c5e8be26e28f00e0b4da2053f88c5cde1209b805c10e32dc430989a09a3304603984c4d2a4297c462e4f00e0a3f118b8bc038287c462e0f00e09ff118b73c03827bc462dcf00e09df118b73c03826fc462daf00e099f118bd17c4dc2fe01c169b44098f118bd17c4dc2fe01c169b44096f118b904dc48a5989684af88c589b31384c1aa6 [S aUE,S [116,100],.tuple [I 15,tt],S [116,104],S [116,114],.tuple [I 14,tt],S aUr,.tuple [I 13,tt],S aUs,S aUo,S aT7,.tuple [I 11,tt],S aUk,.tuple [I 12,tt],S aT6,.tuple [I 9,tt],S aTR,.tuple [I 7,tt],S aTY,.tuple [I 4,tt],S aUb,S aUx,.tuple [I 20,tt],S aTT,.tuple [I 3,tt],.tuple [I 6,tt]]
def ġ:=λp q r=>rd 226 [p,q,r] 0x6011c1271bed413ecb013af82717929c910403c03820dc94e089e01c103e1d806f53658826804041b5148c9
def Ģ:=λp=>rd 227 [p] 0x33e00c6c2ccb9e0711d8a0f189e
def ģ:=λp=>rd 228 [p] 0x3003016044c0c803c03207709ab003903b84d5b84d5a084601806f1313975a10268c49fb8c6200c4f
def Ĥ:=λp q=>rd 229 [p,q] 0x58a127d4486b0162849f0486b1267e10a1cc4980b1424fb8486b0162849f0486b1267e10e0e624e84272a3 [] [.KK 4 false false true]
def ĥ:=λp q=>rd 230 [p,q] 0x2c00c05811303200f10f00f2cf10f00f2b7003c81dc21eacc838e29e09e59e29e09e56e027903b853d599071c63c23cb3c63c23cadc08f20770c7ab320e38d78579678d785795b815e40ee1af56641c71ef0ef2cf1ef0ef2b703bc81dc3deacc838e00720770f7ab03bca0f199f137bd836afc0cf46fc41ccf833e36e67c41c5c58e67c41d682ebf033d1df077c6dccf8d7819e8cf8d7819e8cf8d7819e8ef88392781859971076fc386f0e5709f024aaed7843c5917897819971071bc3924204da222aecf843c59278185997107070fe1c0f843c8eb7301a089a1b2ae1444271dfc083b1e1b17210711097f0d8b6101b2b91781859971070703e1c3786c8eb6f083b985aab8dade222cfc49881a1326162ae33f4613dfc08381e1072107110b420d4c054ae3d2c73adf819e8cf8839581859971070709abe259cfd84286044ab81e10649248b9df819e8df8839078180799710753c3924069d00faae53dca10dfc2107041d3f098b280b420d5c034ae1e02390d609bc4d4e5816f1353965d5c409a35265fdcd6200c4f [S aUy,S aUC,S aTN,S aTS,S aUA,S aUn,S aUp,S aUc,S aUH] [.Cn [I 0,S [],S []] [(1,1),(2,1)],.KK 0 true true false]
def aGy(p:Aa):IT:=
 .B7 359 [S aTP,p] λa=>.rr [a]
def Ħ:M_ cx 231 aGy:=λ_=>Dg
def ħ:=λp q r=>rd 232 [p,q,r] 0x808009222cfc2b7a9b2c041045709c0308dea6cb010412c4207c03514689
def Ws:=λp=>rd 233 [p] 0x20a38568200704e6cd6f2de4b4957ca792d253f25e4b49 [.int .i32 9,.int .i32 10,.int .i32 12,.int .i32 13,.int .i32 32]
def iB:=λp q=>rd 234 [p,q] 0xc04f00e09c3b00de02a8a26480701c118760a3b0a8b3
def iC:=λp q r=>rd 235 [p,q,r] 0x304dc65ddd5cdc5bdb5ada581958d85e97144f151c01cc4dc0f0461da8a3a8cee
def iD:=λp q=>rd 236 [p,q] 0x306010044c0c803c03207709ab13d1678c841b0506c4171351972210268f4063100827a937008082f0a73
def Wt:=λp q=>rd 238 [p,q] 0x281812707ed7382847049c2fb28e0a08700ed6b2e0ceac137887055115a413780a0a264816f10e0aa0101180605bc055144c9
def iE:=λp q=>rd 240 [p,q] 0x38b515b8fc456e3f
def zB:=λp q=>rd 241 [p,q] 0x800423c0fc00e435897351b7ae04007b625cc2e6a36f [] [.KK 0 true false true]
def zC:=λp q=>rd 242 [p,q] 0xc5b514b79
def Wu:=λp q=>rd 243 [p,q] 0x449b952b81
def Wv:=λp q=>rd 244 [p,q] 0x24013824e20a19c4b89104100809c235145a1
def zD:=λp q r=>rd 245 [p,q,r] 0xa0a010040c403c107701ab905fc170304e32d70200d1c98c20089e1352b81
def zE:=λp=>rd 246 [p] 0x11d03e4c1f10d104
def zF:=λp=>rd 247 [p] 0xc7bae435c08e
def zG:=λp=>rd 248 [p] 0xa00474209307c4344102241104
def zH:=λp=>rd 249 [p] 0x50023a104983e21a208a00474209307c4344114008e841260f886882045220a8823984462b99ff504e130626097644102241104
def zI:=λp=>rd 250 [p] 0x14040938ea2092049c8d104127c1
def zJ:=λp=>rd 251 [p] 0xa00474221307c4344102249104
def zK:=λp=>rd 252 [p] 0x14040938ea208114083a2080474209307c4344102249104
def zL:=λp=>rd 253 [p] 0x14040938ea20804743a1307c4344102249104501024e3a882011d0e84c1f10d104089244118f024e0fd886e284bf8438b501024e3a882011d0e84c1f10d104502ce0938ea20804743a1307c4344102ba1307c4369861d044922080a7c4b78338b504ce0938ea20804743a1307c434411e8257c11c5a8247049c75104023a1d0983e21a208f4129e04e2d4113824e3a882011d0e84c1f10d1047a093f00716a02049c75104023a1d0983e21a208112088249049781605bc43474104 [S [104,114],S [112,97,114,97,109],S [115,111,117,114,99,101],S [116,114,97,99,107],S [105,110,112,117,116],S [105,109,97,103,101],S [105,109,103]]
def zM:=λp=>rd 254 [p] 0x10
def zN:=λp=>rd 255 [p] 0x286808ec47260f886882286808ec47260f886882081271d4411e4257c11c5a86808ec47260f886882081271d4410224910408904412d4253c09c5a8081271d4412409391a20807808ec47260f88688254049f8038b501fc09392a20824f8296125e05816f10d [S [112,108,97,105,110,116,101,120,116],S [116,101,120,116,97,114,101,97],S [120,109,112],S [105,102,114,97,109,101]]
def zO:=λp=>rd 256 [p] 0x14008e841260f88688228011d0824c1f10d10423c22cc82a208a00474209307c4344114f08b320a8823f04af81605bc4354008e841260f88688229e11664151047e093f02c0b788683e9125e14ba9 [S [114,117,98,121],S [114,112],S [114,116,99],S [114,116]]
def zP:=λp=>rd 257 [p] 0xa0a0114882a208601096f10d03c0476219307c4344102249104505008a441510430084b7886e808ec43260f886882044922098e125e05816f10d [S [109,97,116,104]]
def zQ:=λp=>rd 258 [p] 0x282828093e08e0103100f00f001e36e083b803e193071c1077007c326163817802f1b7041dc05f0c9838e083b80be1930b1c1077017c302f100f1c01ae42b2fe1083820e23608386d4f1591e67e801386c1be04563645d1fe080a95c03c403cacac5aec5000682cf8483bf8420e0838079191e67e701384c1b580895c4c0622e082a2081e3c4603b6203c10144f710c25b9054410499897841d3f0838b8478041574bc47302de21a2049c75104 [S [108,105],S [100,100,32,100,116],S [97,100,100,114,101,115,115,32,100,105,118,32,112]]
def zR:=λp=>rd 259 [p] 0x28011d0824c1f10d104089244114008e841260f88688204492208114882a20922125e12ee425d9104 [S aUB]
def zS:=λp=>rd 260 [p] 0xa0a059c08ec4d260f886882081271d4411fc200ed30a625782a01072cec4d209c46b0a3af94717063af8c7c1f308b820a882183e21a209e0125e05816f10d500808c03096e41510450080823e1104 [S aTT] [.part 0 none]
def zT:=λp=>rd 261 [p] 0x50504bc09384a2080474209307c434411e808007803845220a8821a04e03984b720a88246000313ce389792020822804041b1d0411402020d8076985312bc1 [I 20]
def zU:=λp=>rd 262 [p] 0x505014e09388a2086e1227360474209307c4344102241104505014e09388a2086e1247360474209307c4344102241104500808639be808c3b11041023e1104
def zV:=λp=>rd 263 [p] 0x28081271d441008e841260f88688204492208a02049c75104023a104983e21a208112488211e4bc2d76378125e14ba9 [S aUa]
def zW:=λp=>rd 264 [p] 0x14049f654049f64e388f420a88210712f441d1044bc212c882006f1ce1cb00de0e8827b8462da5e129441d104 [S [97]]
def zX:=λp=>rd 265 [p] 0x50023a110983e21a208a00474221307c43441022491044bc212c882490497852ea42249104 [S [110,111,98,114]]
def zY:=λp=>rd 266 [p] 0x2809e049c251041024e3a882011d0824c1f10d1045013c09384a2082049c75104023a104983e21a20811208826085466c03ee00ed30a60a7451903041004104
def zZ:=λp=>rd 267 [p] 0x504fc09384a208a0578127094410dc243c19c1a815e049c251043708ff04706a0578127094410dc22fc09c1a815e049c2510437092f00706a0578127094410dc213c0309041040938ea2080474209307c4344102249104 [I 11,I 16]
def aa:=λp=>rd 268 [p] 0x53c0b02de21a9f8127094410402020da5e14ba9 [S aUb,I 19,S aTT]
def ae:=λp=>rd 269 [p] 0x282811e05aec40b7886a2040a5d4816f10d
def af:=λp=>rd 270 [p] 0x50033a12c816f10d104
def ag:=λp=>rd 271 [p] 0x282820710a841510423c22cc82a208dc108770cb220a88225e2b81 [S aUm]
def ah:=λp=>rd 272 [p] 0x2828045320e88211e05aec40b7886b6040a5d4816f10d
def aj:=λp=>rd 273 [p] 0xa049c938b5d8a820740e2d76201c13a104809d7c138ba5e23991045008092f1278e7bc106c7007659118e2cc151045024e49c5aec54103a0716bb100e09d082404ebe09c5d2f11cc88228040497893c73de083601e00ecb2231c5982a2080bdc49f8038b5020e41c5aec540f39e716bb100e09d082404ebe09c5d2f11cc88228040497883c73de08366803b2c88a71660a88202eb125e05816f10d [S [112],S [108,105]]
def ak:=λp=>rd 274 [p] 0x50505058e23d082a2084784599054411b8228ee1a98415104bc08c21dd981271144104410450128691c0823e1104
def ao:=λp=>rd 275 [p] 0x50127e904e613886a5e2399 [S [98,114]]
def Ĩ:=λp=>rd 276 [p] 0x16f0839008095f0839008094f0839008093f0839008092f083 [.int .u8 9,.int .u8 10,.int .u8 12,.int .u8 13,.int .u8 32]
def Ku:=λp q r u=>rd 277 [p,q,r,u] 0xc0c0c0c0c07f00e01a2a02107041d47605bf4d962092107110a741ba846d77480225707c0380681208083ac8b5ecc841c44203c01c1c841c442700e4c034ae0f80700d04170420e2107041c1f0e77656101e18eed9c270a7773a0125700df26cb10400dea6cb104d00801a0d4a0841c1070de8a46497846d7721071108372291932107110836a29193bc00657
def aq:=λp q=>rd 278 [p,q] 0x30303024e0fda9b2c41023824e17d9671cfb2c1cebe39c5d44be104de31cd96208208085c461d816f53658826804041b5148c9
def ĩ:=λp q=>rd 281 [p,q] 0x20015184c4109c232873
def Ī:=λp q=>rd 282 [p,q] 0xc4804011303200f00c81dc26ac4c459e32106c20f4bf10c7c4cace58988b3c6420d85697e218f899079cb0462204d19079305c26110082788040400776464cac988040426371cd4f09e
def ī:=λp q=>rd 283 [p,q] 0x1600602c08981900780640ee1356007207709ab00cc0f1826f618f8989cb810944dde60409a312608b4d6200c4f
def Ĭ:=λp q=>rd 284 [p,q] 0xc00c05811303200f00c81dc26ac13207709ab2a0940601bc4c525ca8409a3127be307e200c4f
def ĭ:=λp q=>rd 285 [p,q] 0x302010044c0c803c03207709ab1391678c84a031316e6ea10268c4b9e18c220084f
end Go.Am
