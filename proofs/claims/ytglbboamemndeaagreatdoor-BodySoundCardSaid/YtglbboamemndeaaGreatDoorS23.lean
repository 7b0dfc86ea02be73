/- Lemmas -/
import Derived.Test.YtglbboamemndeaaGreatDoorS19
set_option linter.all false
namespace Go.Am
open Go
def VC:=λp=>rd 177 [p] 0x50023a0c8983e21a208a00474191307c43441021b91044bc20e4882490497851e6421b9104 [S aQE]
def VD:=λp=>rd 178 [p] 0x2809e049c251041024e3a882011d05e4c1f10d1045013c09384a2082049c75104023a0bc983e21a20810d88826085466c03ee00ed30a60a7435903041004104
def MF:=λp=>rd 179 [p] 0x504fc09384a208a0578127094410dc243c19c1a815e049c251043708ff04706a0578127094410dc22fc09c1a815e049c2510437092f00706a0578127094410dc213c0309041040938ea2080474179307c43441021b9104 [I 11,I 16]
def VE:=λp=>rd 180 [p] 0x53c0b02de21a9f8127094410402020da5e14799 [S aQk,I 19,S aQg]
def VF:=λp=>rd 181 [p] 0x282811e059e840b7886a2040a3cc816f10d
def fJ:=λp=>rd 182 [p] 0x50033a0e4816f10d104
def VG:=λp=>rd 183 [p] 0x2828207108441510423c21dc82a208dc108770c7620a88225e2771 [S aQr]
def VH:=λp=>rd 184 [p] 0x2828044120e88211e059e840b7886b6040a3cc816f10d
def MG:=λp=>rd 185 [p] 0xa049c938b3d0a820740e2cf4201c13a0bc809d7c138ba5e22711045008092f1278e7bc106c700763b118e2cc151045024e49c59e854103a07167a100e09d05e404ebe09c5d2f113888228040497893c73de083601e00ec76231c5982a2080bdc49f8038b5020e41c59e8540f39e7167a100e09d05e404ebe09c5d2f113888228040497883c73de08366803b1d88a71660a88202eb125e05816f10d [S [112],S [108,105]]
def Qi:=λp=>rd 186 [p] 0x50505058e227082a20847843b9054411b8228ee19ac415104bc08c21dd981271144104410450125a91c0822b9104
def fK:=λp=>rd 187 [p] 0x501252904e613886a5e2271 [S [98,114]]
def fL:=λp q=>rd 192 [p,q] 0xc5b514801
def VI:=λp q=>rd 193 [p,q] 0x22e904de02a8a198d804041b514311
def fM:=λp q=>rd 194 [p,q] 0x1f00c11ac44381517 [] [.part 0 none]
def fN:=λp q r=>rd 195 [p,q,r] 0x3942639123ac00e5098d0f8a3d96284c722435aa6 [] [.PU 4 false false true,.PU 4 false true false]
def Sq:=λp q=>rd 196 [p,q] 0x301f807011303200f00c81dc26ac4c4cb3c7021451c31f1313971610268f2863100427893
def fO:=λp=>rd 197 [p] 0x10025e13163e1180c189e [S aRX]
def fP:=λp q=>rd 198 [p,q] 0xc5b514809
def fQ:=λp q=>rd 199 [p,q] 0x10101001591a7e2472c088cad3f123b48400706464cac9d88426362d4f09e [.func (.func 258) [] []]
def fR:=λp q=>rd 200 [p,q] 0x13981e3048eb72ab2c6078d4486b [] [.PU 3 false false true,.PU 3 false true false]
def fS:=λp=>rd 201 [p] 0x33e00c6c2ccb9e0711917889e
def fU:=λp=>rd 202 [p] 0x609b8046b013a0249823adc69e188a88700e4dc120461d847120a441011ac438809222a609b8046b30809222a9011813a3304dc02358471012445538200e0734fc01d10852f0274421115115 [S aQu,S aQh] [.part 0 none,.Lc true]
def VJ:=λp q=>rd 203 [p,q] 0x40465e2f43e83c6cc00808cbc5e87d078d9801011970238c728e8cc5fd7cd6f19cd6798bfaf9ade33993cd4f291d62febe6b78ce64f367ca4758ffaf993cdef291d60c144ef8338f3080a273c11c39801011978bd0fa0f1b30020232f17a1f41e3660040465c08e31ca3a3317f5f35bc67359e62febe6b78ce64f353ca4758bfaf9ade33993cd9f291d63febe64f37bca475830513be10e3cc20289cf0670e60040465c08e31cd98bfaf9ade339acf317f5f35bc673279a9e523ac6bd7cc9e6cf948eb0476273c11c7987a910276fc8c00808cb811c639b317f5f35bc67359e62febe6b78ce64f353ca4758d7af993cd9f291d608ec4c7803a30020232e0472662febe6b78ce6b3cc57d7cc9e6a7948ebb8093f03cd446b [.int .u32 2047,.int .u64 6,.int .u8 192,.int .u8 63,.int .u8 128,.int .u32 55296,.int .u64 12,.int .u8 224,.int .u32 57343,.int .u32 65535,.int .u32 1114111,.int .u64 18,.int .u8 240,.int .u8 239,.int .u8 191,.int .u8 189] [.conv .u32,.int .shr]
def fV:=λp q r=>rd 204 [p,q,r] 0x400087147107c43892c4102c7b8bb58462d818f70b1ee83957146810729418c8e
def fW:=λp q=>rd 205 [p,q] 0x10fa230a8b8a6
def fX:=λp q=>rd 206 [p,q] 0x462d45e402020d91899e7f20101384dd8a6
def aC8(p:Aa):IT:=
 .se [p,S [100,100]] λa=>.FH a (.rr [tt]) (.se [p,S [100,116]] λb=>.FH b (.rr [tt]) (.se [p,S [108,105]] λc=>.FH c (.rr [tt]) (.se [p,S aQN] λd=>.FH d (.rr [tt]) (.se [p,S aQx] λe=>.FH e (.rr [tt]) (.se [p,S [112]] λf=>.FH f (.rr [tt]) (.se [p,S [114,98]] λh=>.FH h (.rr [tt]) (.se [p,S [114,112]] λj=>.FH j (.rr [tt]) (.se [p,S [114,116]] λk=>.FH k (.rr [tt]) (.se [p,S aRD] λm=>.FH m (.rr [tt]) (.rr [ff]))))))))))
def fY:yq cx 207 aC8:=λ_=>C4
def fZ:=λp q=>rd 208 [p,q] 0x603f00e022606401e01903b84e189899678e0428a3883e2624b1049508c276f5c1880213dc4312041
def gA:=λp q=>rd 209 [p,q] 0xc1a8b8a6
def gB:=λp q=>rd 210 [p,q] 0xc1a8b8a6
def gC:=λp q=>rd 211 [p,q] 0x2005fca2e402025bca2e4020257ca2e4020253ca2e402024fca2f2c2d083 [S [109,105],S [109,110],S [109,111],S [109,115],S [109,116,101,120,116]]
def gD:=λp q=>rd 212 [p,q] 0xc07e01c044c0c803c4c0c803c03207709c313132cf1c0941605bc4c396209221187601bc4c396209fa1184ed827f0c40209ee2184c4103f00e082f0a73
def gE:=λp q r=>rd 213 [p,q,r] 0x2829c7a829c7827049c495c431245708946248a0a71ea0a71e09c127125710c4915c2251892027049c475c4311cd50894623811c12703ed474900ed082e95611e4806f51d
def gF:=λp q r=>rd 214 [p,q,r] 0x18f74246ba8b330c8e
def gG:=λp q=>rd 215 [p,q] 0x603f00e022606401e2606401e01903b84d589899678e040a721f0fc13789892c4100b789892c4135c204d189020825511803db05d61880313dc2b5143c1
def gH:=λp q r u=>rd 216 [p,q,r,u] 0xa0a010044c0c803c43c239678878472b7033903b843e198871c4bc239678978472b7033903b84be198871c63df39678c7be72b7203903b863e198871c98e40ee18f8616093ab6982c1833956ceb412fe00700704e093a92b803d5a484c61a1570338300dea9aad802780768592b1b0331ac4750f8278d0a222a2604ee00e304320275f04e2e67c8f44037a9687831f030e5806f11d073903b84be1807889c222ab61180d188710f3f7f020e08385887e223a0ab354a700d3802755c5798a21bf8420e0839803db250b411c39af80795c0c43f111d705ab13098809222a354c52261cc6f48620084f76c3 [] [.C2 [I 0,S [],.slnil] [(0,1),(1,1),(2,1)]]
def gJ:=λp q r=>rd 217 [p,q,r] 0xa0a009c12710508e09c83b218841d7c838b819d7c338b99f264903391d6131043490d620808e441784f9a9e [] [.Lc true,.Lc false]
def gK:=λp q r=>rd 218 [p,q,r] 0x2828027049c41443e29d98640ce47584c411d243588254041784f9aa6 [] [.Lc true,.Lc false]
def gL:=rd 219 [] 0xe09c2386710e29c638e7927b6fcd7886b17ccf886b13cc7886b3bcbf886b5bcaf886b2fca7886b2fc9f886b2fc97886b3fc8f886b [S [116,114],S aQV,S aQW,S aQU,S aQD,I 11,S aQP,S aQu,S aQk,S aQp,I 20] [.C2 [S [],I 0] [(0,1),(1,1)]]
def gM:=λp q=>rd 220 [p,q] 0x615f00e022606401e01903b84e18995e2cf1f0800e86a2a7859898809222a2606401e401001d0d453f0b3131012445413788c276c17f8620084f72c3 [S aQh,S aQu,I 16]
def gN:=λp=>rd 221 [p] 0x981937122326e06c099918981a007856361680ee3b560071b0b40771dab0aca0f1826f64626067dcc7e6c20d9189819f74306b95a2049d958ac99e4c106c2719031661e0c7ccc4e5839910668c2219ac2b200627893
def gO:=λp q=>rd 222 [p,q] 0x21f4461059a8b8a6
def gP:=λp=>rd 223 [p] 0xd9189c07f20101384dd8a6
def aC9(p:Aa):IT:=
 .se [p,S aQD] λa=>.FH a (.rr [tt]) (.se [p,S aQP] λb=>.FH b (.rr [tt]) (.se [p,S aQV] λc=>.FH c (.rr [tt]) (.se [p,S [116,100]] λd=>.FH d (.rr [tt]) (.se [p,S aQU] λe=>.FH e (.rr [tt]) (.se [p,S [116,104]] λf=>.FH f (.rr [tt]) (.se [p,S aQW] λh=>.FH h (.rr [tt]) (.se [p,S [116,114]] λj=>.FH j (.rr [tt]) (.Cb 207 [p] λk=>.rr [k]))))))))
def gQ:yq cx 224 aC9:=λ_=>C4
def aDa(p:Aa):IT:=
 .Cb 226 [p,S aQb] λa=>.rr [a]
def gR:yq cx 225 aDa:=λ_=>C4
def gS:=λp q=>rd 226 [p,q] 0xc0807022606401e01903b84d5898272cf1f0841609d87e0b898271974810268f8c623c40109e1352869
def gT:=λp=>rd 227 [p] 0x62402008981900780640ee13562622cf19085f0070e62622cf1908c2305c4c465e40409a3041e61100427893
def gU:=λp=>rd 228 [p] 0x1010025e05856f1053409c0308de20ae6103e01806f105 [S aQh]
def Sr:=λp q=>rd 229 [p,q] 0xf3838e08732771a661c2390bb967043993b8d3508e42ee21821891c227043993b8d33ce11c85dce3821cc9dc69a847217710c10c04e093886d3ff049f821ac4304282c201c070401da614d4207710c [.map none] [.Fe false .mp] [.zD (I 0) true,.S7 (I 0),.NO]
def VK:=λp=>rd 230 [p] 0xc7ba1c35c08e
def Ss:=λp q=>rd 231 [p,q] 0x31ee163dd0f2ae14708e
def gV:=λp q r=>rd 233 [p,q,r] 0x238049dc33801cc5dc26007081979123ad4486b126201c295064a8a03b893 [] [.PU 1 false false true,.PU 1 false true false] [.pL 1,.zC 1 true true,.clear 1 [I 0]]
def aDb(p:Aa):IT:=
 .ET p λa=>.ln [a] λb=>.loop 3 [I 0] (λc=>.il [g c 0,b] λd=>.FH d (.ea 1 [a,g c 0] λe=>.ld e λf=>.op (.conv .i32) [f] λh=>.Cb 274 [h] λj=>.FH j (.ib [f,.int .u8 65] λk=>.ia [k,.int .u8 97] λm=>.ea 1 [a,g c 0] λn=>.store 1 n m (.ia [g c 0,I 1] λo=>.rn [o])) (.ia [g c 0,I 1] λs=>.rn [s])) (.rx 0 [g c 0])) (lx 0 (λu=>.UD a λw=>.op .YB [w] λy=>.rr [y]) λu=>.rr [S []])
def gW:yq cx 236 aDb:=λ_=>C4
def gX:=λp q=>rd 237 [p,q] 0x301f807011303200f00c81dc26ac4c4cb3c7021451c171311970e10268f1863100427893
def gY:=λp=>rd 238 [p] 0x12869
def gZ:=λp q=>rd 239 [p,q] 0x1394263048eb72ab2c5098d4486b [] [.PU 4 false false true,.PU 4 false true false]
def hC:=λp q=>rd 240 [p,q] 0x404147517
def hO:=λp=>rd 241 [p] 0x4040400a781e6e16e662127e2db85b9b78497806616e75a101e018973 [.int .u8 104,.int .u8 49,.int .u8 54]
def hZ:=λp=>rd 242 [p] 0x181008022606401e05903b86d58d859e9f88c8983f3f092f098b0f063e271672f0c204d1820530880213e0c98e6 [S aRj,S aQ3]
def iA:=λp q=>rd 243 [p,q] 0xe00ec762a2cc15104
def iB:=λp q r=>rd 244 [p,q,r] 0x14000e8422a2cc15104910ee415104
def iC:=λp q=>rd 245 [p,q] 0x20052316301384c18a6
def iD:=λp=>rd 246 [p] 0x20326e00326e12f21f47a93e080f16c20410544104ce1012415104 [S aQk]
def iE:=λp q=>rd 247 [p,q] 0x1828a25880701c118760a250a8b3
def VL:=λp q=>rd 248 [p,q] 0x24013824e20a19c4641104100808c235143f1
def iF:=λp q=>rd 256 [p,q] 0x301f807011303200f00c81dc26ac4c4cb3c7021451c171311970e10268f1863100427893
def iG:=λp q=>rd 257 [p,q] 0x180fc03808981900780640ee1356262659e3810a2c171311970410268f0463100427893
def iH:=λp q=>rd 258 [p,q] 0xd818f740c6b8a204a8e
def iI:=λp q=>rd 259 [p,q] 0x1b33e2410a8b89e
def iJ:=λp q=>rd 260 [p,q] 0x316ccf8a46ca9e
def VM:=λp q=>rd 261 [p,q] 0x2de02a8a1989804041b514311
def Su:=λp=>rd 262 [p] 0xc7ba3c35c27e01c10fe030697807040f80c188e [.func (.func 284) [] [],.func (.func 285) [] []]
def iK:=λp q r=>rd 263 [p,q,r] 0x21f051e45e4020243e0a3a8b8a6
def iL:=λp q r=>rd 264 [p,q,r] 0x238049dc33801cc5dc26007303979123ad4486b126201c295064a8a03b893 [] [.PU 3 false false true,.PU 3 false true false] [.pL 3,.zC 3 true true,.clear 3 [I 0,S [],.slnil]]
def iM:=λp q=>rd 265 [p,q] 0xc1a8b8a6
def VN:=λp q r=>rd 266 [p,q,r] 0x480847a1f109c93892c41013824e20a147c8820808478c04e11a8a1e0ca6
def VO:=λp q r=>rd 267 [p,q,r] 0x4808478270c9cb38273960275f04e2e67c992441013824e20a11e48820808478c04611a8a1f8c9e
def iN:=λp q=>rd 268 [p,q] 0x400260b50b793840603503789e
def aDc(p:Aa):IT:=
 .loop 5 [I 0,I 1,.int .u8 0,I 0] (λa=>.lt [p] λb=>.il [g a 3,b] λc=>.FH c (.op .YA [p,g a 3] λd=>.op (.int .or) [g a 2,d] λe=>.op (.TW 256 1) [.Cu GG,d] λf=>.ld f λh=>.op (.conv .i64) [h] λj=>.op (.un .xor) [j] λk=>.op (.int .and) [g a 1,k] λm=>.ia [g a 0,m] λn=>.ia [g a 3,I 1] λo=>.rn [n,j,e,o]) (.rx 0 [g a 0,g a 1,g a 2,g a 3])) (lx 0 (λs=>.ih [g s 2,.int .u8 128] λu=>.FH u (.ca 288 [p,.func (.func 289) [] []] λw=>.UD w λy=>.rr [y]) (.make 1 16 [S []] (g s 0) (g s 0) λz=>.loop 18 [I 0] (λa0=>.lt [p] λa1=>.il [g a0 0,a1] λa2=>.FH a2 (.op .YA [p,g a0 0] λa5=>.op (.TW 256 1) [.Cu GG,a5] λa7=>.ld a7 λa8=>.iq [a8,.int .u8 0] λb0=>.FH b0 (.ia [g a0 0,I 1] λb1=>.rn [b1]) (.rx 2 [g a0 0])) (.rx 2 [g a0 0])) (lx 2 (λb2=>.loop 21 [I 0,g b2 0,g b2 0] (λb3=>.lt [p] λb4=>.il [g b3 2,b4] λb5=>.FH b5 (.op .YA [p,g b3 2] λb6=>.op (.TW 256 1) [.Cu GG,b6] λb7=>.ld b7 λb8=>.ie [b8,.int .u8 0] λb9=>.FH b9 (.ia [g b3 2,I 1] λc1=>.rn [g b3 0,g b3 1,c1]) (.op (.PU 0 true true true) [p,g b3 1,g b3 2] λc2=>.ea 1 [z,g b3 0] λc3=>.store 1 c3 c2 (.ia [g b3 0,I 1] λc4=>.ia [g b3 2,I 1] λc5=>.loop 27 [c5] (λc6=>.lt [p] λc7=>.il [g c6 0,c7] λc8=>.FH c8 (.op .YA [p,g c6 0] λc9=>.op (.TW 256 1) [.Cu GG,c9] λd0=>.ld d0 λd1=>.iq [d1,.int .u8 0] λd2=>.FH d2 (.ia [g c6 0,I 1] λd3=>.rn [d3]) (.rx 6 [g c6 0])) (.rx 6 [g c6 0])) (λx d4=>match x with| .normal=>.fail| .exit i=>if i=6 then .rn [c4,g d4 0,g d4 0] else if i=5 then .rn [c4,g b3 1,g d4 0] else .ret (.exit i) [c4,g b3 1,g d4 0]| .ret=>.rr [c4,g b3 1,g d4 0])))) (.rx 4 [g b3 0,g b3 1,g b3 2])) (lx 4 (λd5=>.lt [p] λd6=>.il [g d5 1,d6] λd7=>.FH d7 (.op (.PU 0 true true false) [p,g d5 1] λd8=>.ea 1 [z,g d5 0] λd9=>.store 1 d9 d8 (.UD z λe0=>.rr [e0])) (.UD z λe1=>.rr [e1])) λd5=>.UD .slnil λe2=>.rr [e2])) λb2=>.UD .slnil λe3=>.rr [e3]))) λs=>.UD .slnil λe4=>.rr [e4])
def iO:yq cx 269 aDc:=λ_=>C4
def iP:=λp q=>rd 270 [p,q] 0x302010044c0c803c03207709ab1391678c8420a382e2609c65c58409a3ca18440109e13517
def VP:=λp q r=>rd 271 [p,q,r] 0x2000479c8b910420f3517
def iQ:=λp=>rd 274 [p] 0x1051d3f25e4739 [.int .i32 65,.int .i32 90]
def iR:=λp q=>rd 283 [p,q] 0x301f807011303200f00c81dc26ac4c4cb3c7020df90d618f8989cb94081347a631880213c49a9e [] [.geq false [.i,.s,.s]]
def iS:=λp=>rd 284 [p] 0x10fa230a9e4fc978d98a6 [S aQg,S aQu,S aQh]
def iT:=λp=>rd 285 [p] 0x3621f44614fc978998a6 [S aQN,S aQx]
def iU:=λp q=>rd 286 [p,q] 0x40021f44617bc2cce02d00d45c40021f44617bc2cce02d00d45e4020210fa230bbe73c4cef0203c0351790080843e88c2df9af33e63cbf96f2be53c9fa59808c4c87c3f2b080f09830118990f87e561684c18a6 [S aRu,S aQD,S aQg,S aRm,S aRA,S aQu,S [116,100],S aQh,S [116,104],S [111,108],S [117,108],S aQi]
def iV:=λp=>rd 287 [p] 0x85093e08f76010158486b [] [.Fe false .sl]
def aHz(p q:Aa):IT:=
 .make 2 16 [I 0,I 0] i0 (I 32) λ_=>.fail
def xQ:Tq2 cx 288 aHz:=λ_ _=>C4
def Om:=λp=>rd 100088 [p] 0x1414013824e26a08a31b801c86b7067862690a1180e613134 [] [.PU 1 false false true]
def On:=λp=>rd 100094 [p] 0x85073e06f76010158486b [] [.Fe false .sl]
def Oo:=λp=>rd 200081 [p] 0x2040cf81d76010158486b [] [.Fe false .sl,.EI 1]
end Go.Am
