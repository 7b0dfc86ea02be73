/- Lemmas -/
import Derived.Test.YtlcmmpgfafpoiaaGreatDoorT19
set_option linter.all false
namespace Go.Am
open Go
def Į:=λp q r=>rd 293 [p,q,r] 0x100280716ae92808c5b9148e1
def į:=λp q=>rd 295 [p,q] 0x808080808030f2c18e0567760d242333b06ec1098d83a3088cad1207642d3fafd3045770ee
def iF:=λp=>rd 296 [p] 0x34f8c0fb0fa0f90f80f70f0350f40f30f0b10f00fd2fb81c09c7027124d37013af827170ce583219bc4141378829b8d1f105
def İ:=λp=>rd 297 [p] 0x1a7c607d87d07c87c07b8781a87a0798785887807e97dc0e6bb141e30711d820718ee
def iG:=λp q=>rd 305 [p,q] 0xc5b514c61
def Ww:=λp q=>rd 306 [p,q] 0x2c1904de02a8a264d804041b5141b1
def iH:=λp q=>rd 307 [p,q] 0x1f00c11ac44561517 [] [.part 0 none]
def iI:=λp q r=>rd 308 [p,q,r] 0x3942639123ac00e5098d0f8a3d96284c722435aa6 [] [.KK 4 false false true,.KK 4 false true false]
def SZ:=λp q=>rd 309 [p,q] 0x301f807011303200f00c81dc26ac4c4cb3c7021451c31f1313971610268f2863100427893
def iJ:=λp=>rd 310 [p] 0x10025e13163e1180c189e [S aUI]
def iK:=λp q=>rd 311 [p,q] 0xc5b514c69
def ı:=λp=>rd 312 [p] 0x189008022606401e01903b84d58988b3c6420d82679f806f1313973010268c49f10c220084f
def Ĳ:=λp=>rd 313 [p] 0x1600602c0898190078d859678d8595b81640ee1b56541c702c81dc36ac00e40ee1b5605941e304dec31f1b1397021019bc8163b38281085fc2606441e01903b84d580640ee13564881dc26ac9c20238b02de36272c0b789859cbc30808e0c0378d89cb00de261672c15f881346164c1b398440389e1b14409a31261d94d6200c4f
def ĳ:=λp=>rd 314 [p] 0x1010025e53163e1390c1a4840f80c18ee [S aTR]
def au:=λp q=>rd 315 [p,q] 0x175065886001750658860e7049c63832c43033824ea0cb10c10a0f8dc0460182ea0cb10c
def Ĵ:=λp=>rd 316 [p] 0x47800de6070e44044c0c803c00e40ee135601808e300e2cc00e40ee135601808e3059a5e00eadd02058e3f1316e6088c409a312e60b2cd6200c4f [.int .u8 32]
def iL:=λp q=>rd 317 [p,q] 0x10101001591a7e2472c088cad3f123b48400706464cac9d88426362d4f09e [.func (.func 399) [] []]
def iM:=λp q=>rd 318 [p,q] 0x13981e3048eb72ab2c6078d4486b [] [.KK 3 false false true,.KK 3 false true false]
def iN:=λp=>rd 319 [p] 0x33e00c6c2ccb9e0711924c89e
def iO:=λp=>rd 320 [p] 0x609b8046b013a2e09823adc69e188a88700e4dc120461d8471324441011ac4388b8222a609b8046b308b8222a9011813a3304dc02358471170445538200e0734fc01d18452f0274611115115 [S aT6,S aTR] [.part 0 none,.LI true]
def Wx:=λp q=>rd 321 [p,q] 0x40465e2f43e83c6cc00808cbc5e87d078d9801011970238c728e8cc5fd7cd6f19cd6798bfaf9ade33993cd4f291d62febe6b78ce64f367ca4758ffaf993cdef291d60c144ef8338f3080a273c11c39801011978bd0fa0f1b30020232f17a1f41e3660040465c08e31ca3a3317f5f35bc67359e62febe6b78ce64f353ca4758bfaf9ade33993cd9f291d63febe64f37bca475830513be10e3cc20289cf0670e60040465c08e31cd98bfaf9ade339acf317f5f35bc673279a9e523ac6bd7cc9e6cf948eb0476273c11c7987a910276fc8c00808cb811c639b317f5f35bc67359e62febe6b78ce64f353ca4758d7af993cd9f291d608ec4c7803a30020232e0472662febe6b78ce6b3cc57d7cc9e6a7948ebb8093f03cd446b [.int .u32 2047,.int .u64 6,.int .u8 192,.int .u8 63,.int .u8 128,.int .u32 55296,.int .u64 12,.int .u8 224,.int .u32 57343,.int .u32 65535,.int .u32 1114111,.int .u64 18,.int .u8 240,.int .u8 239,.int .u8 191,.int .u8 189] [.conv .u32,.int .shr]
def iP:=λp q r=>rd 322 [p,q,r] 0x400087147107c43892c4102c7b8bb58462d818f70b1eeca15714a31072964cc8e
def iQ:=λp q=>rd 323 [p,q] 0x10fa328a8b8a6
def iR:=λp q=>rd 324 [p,q] 0x462d45e402020d918a8a7f20101384dd8a6
def aGz(p:Aa):IT:=
 .se [p,S [100,100]] λa=>.Gg a (.rr [tt]) (.se [p,S [100,116]] λb=>.Gg b (.rr [tt]) (.se [p,S [108,105]] λc=>.Gg c (.rr [tt]) (.se [p,S aUq] λd=>.Gg d (.rr [tt]) (.se [p,S aUB] λe=>.Gg e (.rr [tt]) (.se [p,S [112]] λf=>.Gg f (.rr [tt]) (.se [p,S [114,98]] λh=>.Gg h (.rr [tt]) (.se [p,S [114,112]] λj=>.Gg j (.rr [tt]) (.se [p,S [114,116]] λk=>.Gg k (.rr [tt]) (.se [p,S [114,116,99]] λm=>.Gg m (.rr [tt]) (.rr [ff]))))))))))
def iS:M_ cx 325 aGz:=λ_=>Dg
def iT:=λp q=>rd 326 [p,q] 0x603f00e022606401e01903b84e189899678e0428a3883e2624b1049508c276f5c1880213dc43125b9
def iU:=λp q=>rd 327 [p,q] 0xc1a8b8a6
def iV:=λp q=>rd 328 [p,q] 0xc1a8b8a6
def iW:=λp q=>rd 329 [p,q] 0x2005fca2e402025bca2e4020257ca2e4020253ca2e402024fca2f2c2d083 [S [109,105],S [109,110],S [109,111],S [109,115],S [109,116,101,120,116]]
def iX:=λp q=>rd 330 [p,q] 0xc07e01c044c0c803c4c0c803c03207709c313132cf1c0941605bc4c396209221187601bc4c396209fa1184ed827f0c40209ee2184c4103f00e082f0a73
def iY:=λp q r=>rd 331 [p,q,r] 0x2829c7a829c7827049c495c431245708946248a0a71ea0a71e09c127125710c4915c2251892027049c475c4311cd50894623811c12703ed474900ed952e95612d4806f51d
def iZ:=λp q r=>rd 332 [p,q,r] 0x18f76586ba8b508c8e
def i5:=λp q=>rd 333 [p,q] 0x603f00e022606401e2606401e01903b84d589899678e040a722e8fc13789892c4100b789892c4135c204d1892dc825511803db05d61880313dc2b5145a1
def i6:=λp q r u=>rd 334 [p,q,r,u] 0xa0a010044c0c803c43c239678878472b7033903b843e198871c4bc239678978472b7033903b84be198871c63df39678c7be72b7203903b863e198871c98e40ee18f8616093ab6982c184f956ceb412fe00700704e093a92b803d5a484c61a1570338300dea9aad80278076cc12b1b0331ac4750f8278d97222a2604ee00e305520275f04e2e67c96c4037a9687831f030e5806f11d073903b84be180788f4222ab61180d188710f3f7f020e0838588bc223a0ab52ca700d3802755c5798a21bf8420e0839803db250b411c39af80795c0c45e111d705ab130988b8222a354c52261cc6f48620084f76c3 [] [.Cn [I 0,S [],.slnil] [(0,1),(1,1),(2,1)]]
def i7:=λp q r=>rd 335 [p,q,r] 0xa0a009c12710508e09c83b310841d7c838b819d7c338b99f29f903391d6131043490d620808e441784f9a9e [] [.LI true,.LI false]
def jA:=λp q r=>rd 336 [p,q,r] 0x2828027049c41443e29da6840ce47584c411d243588254041784f9aa6 [] [.LI true,.LI false]
def jB:=rd 337 [] 0xe09c2386710e29c638e7927b6fcd7886b17ccf886b13cc7886b3bcbf886b5bcaf886b2fca7886b2fc9f886b2fc97886b3fc8f886b [S [116,114],S aUr,S aUs,S aUo,S aT7,I 11,S aUk,S aT6,S aUb,S aUx,I 20] [.Cn [S [],I 0] [(0,1),(1,1)]]
def jC:=λp q=>rd 338 [p,q] 0x615f00e022606401e01903b84e18995e2cf1f0800e8a22a78598988b8222a2606401e401001d14453f0b3131170445413788c276c17f8620084f72c3 [S aTR,S aT6,I 16]
def jD:=λp=>rd 339 [p] 0x981937122326e06c099918981a007856361680ee3b560071b0b40771dab0aca0f1826f64626067dcc7e6c20d9189819f76646b95a2fc9d958ac99e4c106c2ac9031661e0c7ccc4e5839910668c2219ac2b200627893
def jE:=λp q=>rd 340 [p,q] 0x21f4651059a8b8a6
def jF:=λp=>rd 341 [p] 0xd918aac7f20101384dd8a6
def aGA(p:Aa):IT:=
 .se [p,S aT7] λa=>.Gg a (.rr [tt]) (.se [p,S aUk] λb=>.Gg b (.rr [tt]) (.se [p,S aUr] λc=>.Gg c (.rr [tt]) (.se [p,S [116,100]] λd=>.Gg d (.rr [tt]) (.se [p,S aUo] λe=>.Gg e (.rr [tt]) (.se [p,S [116,104]] λf=>.Gg f (.rr [tt]) (.se [p,S aUs] λh=>.Gg h (.rr [tt]) (.se [p,S [116,114]] λj=>.Gg j (.rr [tt]) (.B7 325 [p] λk=>.rr [k]))))))))
def jG:M_ cx 342 aGA:=λ_=>Dg
def aGB(p:Aa):IT:=
 .B7 344 [p,S aTN] λa=>.rr [a]
def jH:M_ cx 343 aGB:=λ_=>Dg
def jI:=λp q=>rd 344 [p,q] 0xc0807022606401e01903b84d5898272cf1f084160adc7e0b898271974810268f8c623c40109e1352cd1
def jJ:=λp=>rd 345 [p] 0x62402008981900780640ee13562622cf19085f0070e62622cf1908c2305c4c465e40409a3041e61100427893
def jK:=λp=>rd 346 [p] 0x1010025e05856f1053409c0308de20ae6103e01806f105 [S aTR]
def S0:=λp q=>rd 347 [p,q] 0xf3838e08732771a661c2390bb967043993b8d3508e42ee21821891c227043993b8d33ce11c85dce3821cc9dc69a847217710c10c04e093886d3ff049f821ac4304283a201c070401da614d4207710c [.map none] [.Gd false .mp] [.oe (I 0) true,.Tx (I 0),.Pk]
def ĵ:=λp=>rd 348 [p] 0x29e0609b800de007496e3cf0c450c29c9b81e08c59c190709b81ce266c882220461d8471336441003786712588a1826e011acc25fc88a24046119826e003788712588a2400d043d0420e08380708e1ccbc23027b6ca00a574fc09d11c404ebe09c5d2f0474471114114 [S aTR,S aT6,.tuple [I 0,I 0]] [.part 0 none]
def Ķ:=λp q r=>rd 349 [p,q,r] 0x312010044c0c803c03207709ab1311678c8522670883e26292e30204d1893d60220084f72ab
def ķ:=λp=>rd 350 [p] 0x297888b3f [S aTV]
def ĸ:=λp=>rd 351 [p] 0x14fc4459fc80404297888b3f [S aTV,S aTX]
def Ĺ:=λp=>rd 352 [p] 0x10f8130297f2e21893
def ĺ:=λp q=>rd 353 [p,q] 0x180180b022606401e01903b84d582640ee1356541282c0b78989cb9508134624f7c07e200c4f12721
def aw:=λp q=>rd 354 [p,q] 0x505004e09388e86712364471582316d446f111c
def Ļ:=λp q=>rd 355 [p,q] 0x301f807011303200f00c81dc26ac4c4cb3c70202391b87e09bc4c525816f1314978610268c49821b0c40289ee00eac3f00e08c235148e1
def ļ:=λp q r u w=>rd 356 [p,q,r,u,w] 0x5bc04c0c9b81e02462606601e41e21e01e79e41e21e01e76e087807983b883e19f071c8bc0c0bcf3c8bc0c0bcedc0302f3077117c33a0e3957818579e7957818579db80615e60ee2af86741c700c03cc1dc55f0cc15e01e4204882781d57f017883820ee12f564c12609255e838478304e09388e8979078878199718c844bc48d911c031c09c1271150439426300391d6e26f56228007284c687c51ecb1426326f086b114132be70306824626078d6b0f063e261cb11c00c0bcc1dc45f0c13824e22a087284c600723adc45eac450b1426322f086b11404022309a3166a28fefe043c81c63819678c7032b70fc0640e7c1f5fc21e20e083b843e19304981195710f14e8c13824e23a11c48d911c053a068182874ab902d1e4f7f0841c1073027b64a1680e657b0da4044ae06237888e09841f2312588a12a514918732696280730104f76c300dfa24b114 [.tuple [I 0,I 0]] [.KK 4 false false true,.KK 4 false true false,.Cn [I 0,S [],ff,S [],ff,S [],ff,ff,.slnil,ff,S [],.int .i32 0] [(0,1),(1,1),(8,1)]]
def Ľ:=λp q r=>rd 357 [p,q,r] 0x7284c722475801ca131a1f147b2c5098e4486b0001ca131867123ac00e5098d0f8a3d96284c6090d624ed8224398930001ca131b848eb0039426343e28f658a131b8486b0001ca131867123ac00e5098d0f8a3d96284c6090d624ed821c1cc49831313a51aa6 [] [.KK 4 false false true,.KK 4 false true false]
def ľ:=λp q=>rd 358 [p,q] 0xc29e01c044c0c803c03207709c3132bc59e3e1001d1b455f0b3107c4c49622826a78b3c7c2003a368a7e16620f89892c45014888c276c1908620084f72c3 [S aTR,I 16,S aT6]
def Ŀ:=λp q=>rd 359 [p,q] 0xc280702462606601e0981983b88d5801c0cc1dc46adc46ac8c4c3cf2313131ad002505829e1f9189898d7bc127e01918b7300381983b88d5b88d59189879e46262635a004a0b053c3f2313131af78208c189730956208c7989730ad66311e300c4f [.int .u8 32] [.KK 0 true true true]
def Wy:=λp=>rd 360 [p] 0xc7bb3a35c08e
def S1:=λp q=>rd 361 [p,q] 0x31ee163dd9e2ae14708e
def jL:=λp q r=>rd 363 [p,q,r] 0x238049dc33801cc5dc26007081979123ad4486b126201c295064a8a03b893 [] [.KK 1 false false true,.KK 1 false true false] [.qR 1,.ey 1 true true,.clear 1 [I 0]]
def aGC(p:Aa):IT:=
 .Ff p λa=>.ln [a] λb=>.loop 3 [I 0] (λc=>.il [g c 0,b] λd=>.Gg d (.ea 1 [a,g c 0] λe=>.ld e λf=>.op (.conv .i32) [f] λh=>.B7 417 [h] λj=>.Gg j (.ib [f,.int .u8 65] λk=>.ia [k,.int .u8 97] λm=>.ea 1 [a,g c 0] λn=>.store 1 n m (.ia [g c 0,I 1] λo=>.rn [o])) (.ia [g c 0,I 1] λs=>.rn [s])) (.rx 0 [g c 0])) (lx 0 (λu=>.Ph a λw=>.op .WK [w] λy=>.rr [y]) λu=>.rr [S []])
def jM:M_ cx 366 aGC:=λ_=>Dg
def ax:=λp q=>rd 367 [p,q] 0x301f807011303200f00c81dc26ac4c4cb3c7021451c171311970e10268f1863100427893
def jN:=λp=>rd 368 [p] 0x12cd1
def jO:=λp q=>rd 369 [p,q] 0x1394263048eb72ab2c5098d4486b [] [.KK 4 false false true,.KK 4 false true false]
def ay:=λp q=>rd 370 [p,q] 0x404147517
def az:=λp=>rd 371 [p] 0x4040400a781e6e16e662127e2db85b9b78497806616e75a101e018973 [.int .u8 104,.int .u8 49,.int .u8 54]
def a_:=λp=>rd 372 [p] 0x181008022606401e05903b86d58d859e9f88c8f03f3f092f098b0f063e271672f0c204d1820530880213e0c98e6 [S aUQ,S [104,105,100,100,101,110]]
def bb:=λp q=>rd 373 [p,q] 0xe00ecb22a2cc15104
def bc:=λp q r=>rd 374 [p,q,r] 0x14000e8542a2cc1510491166415104
def bd:=λp q=>rd 375 [p,q] 0x20052316301384c18a6
def be:=λp=>rd 376 [p] 0x20326e00326e12f21f4bb93e080f16c25b90544104ce1170415104 [S aUb]
def bg:=λp q=>rd 377 [p,q] 0x1828a3b880701c118760a3b0a8b3
def bh:=λp q=>rd 378 [p,q] 0x24013824e20a19c49f1104100808c235145e1
def ŀ:=λp q r=>rd 379 [p,q,r] 0x1302010044c0c803c4c2070314d119019678c84a060db02301bbae0a480313c402020dc8a4648804041b5148c9
def Ł:=λp q=>rd 380 [p,q] 0x580180b022606401e01903b84d5801c81dc26ac03081c60b305c4c465bc04a3b05c4c465ef0409a31260944d6200c4f
def ł:=λp q=>rd 382 [p,q] 0x181008022606401e01903b84d589c8b3c64237e10d618f8989cb9108134624f6c61100427a9e [] [.geq false [.i,.s,.s]]
def Ń:=λp q=>rd 383 [p,q] 0x10f813083ea292d0f81300d64a10b6c49a1f02601ac94232a3 [] [.Cn [I 0,I 0,S [],ff] []]
def ń:=λp q=>rd 386 [p,q] 0x202020202020200a3ab21ac8c2939b16a0141c58b7d09cdec5d504c6d69a43c0129ad8b04362434b060a04406160d770ee [] [.beq false]
def aDp(p:Aa):IT:=
 .op (.Gd false .sl) [p,.slnil] λa=>.Gg a (.rr [.slnil]) (.op (.C8 1) [] λb=>.GD 1 8 b p λc=>.rr [c])
def Wz:M_ cx 387 aDp:=λ_=>Dg
def jP:=λp q=>rd 396 [p,q] 0x301f807011303200f00c81dc26ac4c4cb3c7021451c171311970e10268f1863100427893
def jQ:=λp q=>rd 397 [p,q] 0x180fc03808981900780640ee1356262659e3810a2c171311970410268f0463100427893
def Ņ:=λp=>rd 398 [p] 0x8013f08f31f092f0db [.int .u8 65,.int .u8 90]
def jR:=λp q=>rd 399 [p,q] 0xd818f76406b8a2fca8e
def jS:=λp q=>rd 400 [p,q] 0x1b33e2644a8b89e
def jT:=λp q=>rd 401 [p,q] 0x316ccf8a6a4a9e
def WA:=λp q=>rd 402 [p,q] 0x2de02a8a2649804041b5141b1
def S2:=λp=>rd 403 [p] 0xc7bb5835c27e01c10fe030697807040f80c188e [.func (.func 426) [] [],.func (.func 427) [] []]
def jU:=λp q r=>rd 404 [p,q,r] 0x21f051e45e4020243e0a3a8b8a6
def jV:=λp q r=>rd 405 [p,q,r] 0x238049dc33801cc5dc26007303979123ad4486b126201c295064a8a03b893 [] [.KK 3 false false true,.KK 3 false true false] [.qR 3,.ey 3 true true,.clear 3 [I 0,S [],.slnil]]
def jW:=λp q=>rd 406 [p,q] 0xc1a8b8a6
def WB:=λp q r=>rd 407 [p,q,r] 0x480847a1f109c93892c41013824e20a16b48820808478c04e11a8a2d0ca6
def WC:=λp q r=>rd 408 [p,q,r] 0x4808478270c9cb38273960275f04e2e67ca7e441013824e20a12d48820808478c04611a8a2f0c9e
def jX:=λp q=>rd 409 [p,q] 0x400260b50b793840603503789e
def aGD(p:Aa):IT:=
 .loop 5 [I 0,I 1,.int .u8 0,I 0] (λa=>.lt [p] λb=>.il [g a 3,b] λc=>.Gg c (.op .Zr [p,g a 3] λd=>.op (.int .or) [g a 2,d] λe=>.op (.Uq 256 1) [.CJ Hg,d] λf=>.ld f λh=>.op (.conv .i64) [h] λj=>.op (.un .xor) [j] λk=>.op (.int .and) [g a 1,k] λm=>.ia [g a 0,m] λn=>.ia [g a 3,I 1] λo=>.rn [n,j,e,o]) (.rx 0 [g a 0,g a 1,g a 2,g a 3])) (lx 0 (λs=>.ih [g s 2,.int .u8 128] λu=>.Gg u (.ca 430 [p,.func (.func 431) [] []] λw=>.Ph w λy=>.rr [y]) (.make 1 16 [S []] (g s 0) (g s 0) λz=>.loop 18 [I 0] (λa0=>.lt [p] λa1=>.il [g a0 0,a1] λa2=>.Gg a2 (.op .Zr [p,g a0 0] λa5=>.op (.Uq 256 1) [.CJ Hg,a5] λa7=>.ld a7 λa8=>.iq [a8,.int .u8 0] λb0=>.Gg b0 (.ia [g a0 0,I 1] λb1=>.rn [b1]) (.rx 2 [g a0 0])) (.rx 2 [g a0 0])) (lx 2 (λb2=>.loop 21 [I 0,g b2 0,g b2 0] (λb3=>.lt [p] λb4=>.il [g b3 2,b4] λb5=>.Gg b5 (.op .Zr [p,g b3 2] λb6=>.op (.Uq 256 1) [.CJ Hg,b6] λb7=>.ld b7 λb8=>.ie [b8,.int .u8 0] λb9=>.Gg b9 (.ia [g b3 2,I 1] λc1=>.rn [g b3 0,g b3 1,c1]) (.op (.KK 0 true true true) [p,g b3 1,g b3 2] λc2=>.ea 1 [z,g b3 0] λc3=>.store 1 c3 c2 (.ia [g b3 0,I 1] λc4=>.ia [g b3 2,I 1] λc5=>.loop 27 [c5] (λc6=>.lt [p] λc7=>.il [g c6 0,c7] λc8=>.Gg c8 (.op .Zr [p,g c6 0] λc9=>.op (.Uq 256 1) [.CJ Hg,c9] λd0=>.ld d0 λd1=>.iq [d1,.int .u8 0] λd2=>.Gg d2 (.ia [g c6 0,I 1] λd3=>.rn [d3]) (.rx 6 [g c6 0])) (.rx 6 [g c6 0])) (λx d4=>match x with| .normal=>.fail| .exit i=>if i=6 then .rn [c4,g d4 0,g d4 0] else if i=5 then .rn [c4,g b3 1,g d4 0] else .ret (.exit i) [c4,g b3 1,g d4 0]| .ret=>.rr [c4,g b3 1,g d4 0])))) (.rx 4 [g b3 0,g b3 1,g b3 2])) (lx 4 (λd5=>.lt [p] λd6=>.il [g d5 1,d6] λd7=>.Gg d7 (.op (.KK 0 true true false) [p,g d5 1] λd8=>.ea 1 [z,g d5 0] λd9=>.store 1 d9 d8 (.Ph z λe0=>.rr [e0])) (.Ph z λe1=>.rr [e1])) λd5=>.Ph .slnil λe2=>.rr [e2])) λb2=>.Ph .slnil λe3=>.rr [e3]))) λs=>.Ph .slnil λe4=>.rr [e4])
def jY:M_ cx 410 aGD:=λ_=>Dg
def ņ:=λp q=>rd 411 [p,q] 0x16f53658821804041b5148c9
def Ň:=λp q=>rd 412 [p,q] 0x462646e1f808d7f11167e5c04e80462646e1f808d7f11167e5c08e80462646e1f808d7f11167e5c0cea402025bc462e802d28304ba09d008c4c8dc3f011afe222cfcb811d008c4c8dc3f011afe222cfcb819d008c4c8dc3f011afe222cfcb821d480404b788c5d005a506097423a0118991b87e0235fc4459f97033a0118991b87e0235fc4459f97043a0118991b87e0235fc4459f97053a9008096f118ba00b4a0c12e86752010111abe222cfc1fa880f2830f7e09d003646a7888b3f900808139b5f087f28310011a7e222cfcb801d26840f941b84c18a6 [S aUe,S aT8,S aUU,S aUa,S aTU]
def jZ:=λp q=>rd 413 [p,q] 0x302010044c0c803c03207709ab1391678c8420a382e2609c65c58409a3ca18440109e13517
def WD:=λp q r=>rd 414 [p,q,r] 0x2000479c8b910420f3517
def j0:=λp=>rd 417 [p] 0x1051d3f25e4b49 [.int .i32 65,.int .i32 90]
def ň:=λp q=>rd 418 [p,q] 0x31bd4d96208002dea6cb1043108c3b02dea6cb104
def ŉ:=λp q=>rd 420 [p,q] 0x189008022606401e01903b84d58988b3c64201390d618f89a9cb0c7c4c4e5db0409a31260804c220104f10080800eed49893 [] [.geq true [.i,.s,.s]]
def j1:=λp q=>rd 425 [p,q] 0x301f807011303200f00c81dc26ac4c4cb3c7020df90d618f8989cb94081347a631880213c49a9e [] [.geq false [.i,.s,.s]]
def j2:=λp=>rd 426 [p] 0x10fa328a9e4fc978d98a6 [S aTT,S aT6,S aTR]
def j3:=λp=>rd 427 [p] 0x3621f46514fc978998a6 [S aUq,S aUB]
def j6:=λp q=>rd 428 [p,q] 0x40021f46517bc2cce02d00d45c40021f46517bc2cce02d00d45e4020210fa328bbe73c4cef0203c0351790080843e8ca2df9af33e63cbf96f2be53c9fa59808c4c8ba3f2b080f09830118991747e561684c18a6 [S aUO,S aT7,S aTT,S aUK,S aUP,S aT6,S [116,100],S aTR,S [116,104],S [111,108],S [117,108],S aUa]
def j7:=λp=>rd 429 [p] 0x85093e08f76010158486b [] [.Gd false .sl]
def aLy(p q:Aa):IT:=
 .make 2 16 [I 0,I 0] i0 (I 32) λ_=>.fail
def bj:Tq2 cx 430 aLy:=λ_ _=>Dg
def OG:=λp=>rd 100125 [p] 0x1414013824e26a08ed1b801c86b7067862690a1180e613134 [] [.KK 1 false false true]
def OH:=λp=>rd 100147 [p] 0x85073e06f76010158486b [] [.Gd false .sl]
def OI:=λp=>rd 200118 [p] 0x2040cf81d76010158486b [] [.Gd false .sl,.E4 1]
end Go.Am
