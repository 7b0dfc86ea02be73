/- Lemmas -/
import Derived.Test.YtjbidlnjecppfaaGreatDoorS5
set_option linter.all false
set_option maxHeartbeats 0
set_option maxRecDepth 100000
namespace Go.Am
open Go
def aER:=NH 284 "5lEMJ138aJ"
def aES:=NH 285 "1S6PAv38Z1"
def Ij:=DN 286 "5tapqXwkMX60tEWN3V5yw79G2M634ItOGZNd44E86w9K3y1_kTwLfM621ns6SbIfdhR6eMfItctUKbK5Krlcrmv1reZUpZOE4sLt9yRQA1XKB_ew3kXSXb9eV0UWxVvbtbDBHKtFuRUXFrEXK79rG20gH96OhMK0rGA13NOQuMmROkZ63QJPv8ilB7dRXWEPpnTNWnKmUyymYAxxrHLFM1qXqdt4bZVGcAf6PzXYDdHLRzz3yuA4lk2uzG3jAnrv6k53QwOB_q_0L_QTRBfbmefpJVyXDK3HPoxyR1tXbbNEJTttkE5LIUn99zcfEkCLAOie0NTN_sM6RB3_9pI2Tw4Sr70jSyROu7OVYmpatU_" [S [97],S a2F,S a2P,S a2Y,S a3a,S a4U,S a3t,S a41,S a4a,S a4c,S a4V]
def aET:=NH 287 "1I6UW3XZj8Sm9EW5O"
def aEU:=DN 288 "OYch95S80Ek4bW"
def aEV:=DN 289 "4LeDYwkJsWDskcOEbYwdXeVo0mO1crrLEfFGLypVYyMbLD5oiQ"
def sF:=E5 290 "9Mk7g0ZQPh81Fc1lKlNlOIt9U3qM9crRr4h_hpb9j5O8YpHglzIw9S6YrDe8yJYwB5w"
def aEW:=E5 291 "DSMkI3IbuV3I1rNxlCeWHsatsagGFJ2g5EDJ6BTFAMoRmT"
def sG:=DN 296 "qTzjzs"
def aB:=DN 297 "EloqZWLq6ugoFs5_p30F"
def sH:=DN 298 "_IKPlKSG9Om" [] [.part 0 none]
def sI:=NH 299 "1NEe3bjL75SGtfgy47x12PHxTmPl" [] [.LK 4 false false true,.LK 4 false true false]
def Wc:=DN 300 "6PWolpCaroFf3N6i03KugksrGozmiJlkELRNPjHrE9Obz6vGo"
def sJ:=E5 301 "4uRAAf44mhKY9Q" [S a4r]
def sK:=DN 302 "qTzk00"
def aEX:=E5 303 "DHvLWHYafiYI6onTCNUnPNco54wW91acMGoWvB_O1PpBXVZthd"
def aEY:=E5 304 "1IH2qhGDRLuVEqkOY2uJhv2CpsYEPtJgsWQraj6sWz60JZE4IOIZj1TrZo9EeHeYzsy2Eqh9Z93p5jiplPx51HM5uqazqPV3vFMwn6wRqaFiim3V7NGaIdfUF8BUorflFADHCPP7pr1wafLf4wFrAReqlJHKiyKaWxgjm0ZPgHxj8"
def aEZ:=E5 305 "5a9BvgDs54mCVswxgoQi6e" [S a2z]
def yb:=DN 306 "CDkQTNlDFTuAI4inC4ZjGBomSeZ5ByS2mhfZmDBSHBKSPpOA"
def aE0:=E5 307 "x6Najzy1wMZwnxta0iZjFe22aPn2ynjJPsjkcfGmP0xz7ss1cXJsDsK2spD9rsRH4EHl3kxvQiEJj0" [.int .u8 32]
def sL:=DN 308 "1sjy2131sQ3ZJqXdl2HlWJXQBGfSQgok44lxBB3fW" [.func (.func 389) [] []]
def sM:=DN 309 "1cRYWAcdRAzMA_ss0nM" [] [.LK 3 false false true,.LK 3 false true false]
def sN:=E5 310 "4AmqqB8hyHVBenTBP"
def sP:=E5 311 "7PbMVAW_7tlBYCz21zL_H0s_mHNt3J9QjvDO9N60YYBkTqjZJtQAoLTPe5BVQy2qSpiuUgAfOGFsI8_Z7rb7t09m1W2fxGKscjeVgX" [S a2K,S a2z] [.part 0 none,.Nr true]
def aC:=DN 312 "MKeBO1i5MzrE7SXtbF6cGaIihvFYWo8RhgUMvCfxiAoNzgGslvsXDqLlegmyaQofP6aCMMpE71MqO0F9rW4QTyk2Igdj9SeWWlFUruOIJMtE3FE7JBA4RcbY9PdllSjpIIhm1L9R6Dw2ys22tcDTH3MNL9t_03TLLeEG35YxyXqkPEED879SojWm9iFOr2gflHCrcxDySyBIel084GIxlaj9PPpMzcHoE5ZiJ39pyQlojK0LWivyPRaVm9pL1Dv6o_e0S7RhbARdqVMVnKYwwwYZkzwJUpWVFPrmSN2DQQXLcIRvZ2wsQdIsspbZAw4Hrm52S0syCUeYBPZEqAOLurJNYnxuIbDtwe403RqKC9CnUQywaClQUh" [.int .u32 2047,.int .u64 6,.int .u8 192,.int .u8 63,.int .u8 128,.int .u32 55296,.int .u64 12,.int .u8 224,.int .u32 57343,.int .u32 65535,.int .u32 1114111,.int .u64 18,.int .u8 240,.int .u8 239,.int .u8 191,.int .u8 189] [.conv .u32,.int .shr]
def sQ:=NH 313 "1y0Vqc78gf5B_ad0vQhXNl0znrYmFfxB7m1HJNZm4_4H"
def sR:=DN 314 "1CotBt1tQ"
def sS:=DN 315 "1_EkNspIWzhpDHqG46lErvMH"
def aNC(p:Ad):IT:=
 .se [p,S [100,100]] λa=>.Hs a (.rr [tt]) (.se [p,S [100,116]] λb=>.Hs b (.rr [tt]) (.se [p,S [108,105]] λc=>.Hs c (.rr [tt]) (.se [p,S a3J] λd=>.Hs d (.rr [tt]) (.se [p,S a3a] λe=>.Hs e (.rr [tt]) (.se [p,S [112]] λf=>.Hs f (.rr [tt]) (.se [p,S [114,98]] λh=>.Hs h (.rr [tt]) (.se [p,S [114,112]] λj=>.Hs j (.rr [tt]) (.se [p,S [114,116]] λk=>.Hs k (.rr [tt]) (.se [p,S a4a] λm=>.Hs m (.rr [tt]) (.rr [ff]))))))))))
def sT:Tq1 cx 316 aNC:=λ_=>Dv
def sU:=DN 317 "sRd1F4_8rjqbhreHvZL3Vptmy57LFn9l5HURivKAawNA0gizFj5wgO"
def sV:=DN 318 "3HFnE3"
def sW:=DN 319 "3HFnE3"
def sX:=DN 320 "En9OcmCgl5ejtxTJ7BuhLOQegwq__Htwd1VR3J4v" [S [109,105],S [109,110],S [109,111],S [109,115],S [109,116,101,120,116]]
def sY:=DN 321 "AlXCdWLVHwsMDOKAwaWtFa5Jw6fZi6QBJGQDhzJ8MM_s8pzVKA5yASnNlXIOgZHKmWi4jOO605pU8oaUFI"
def sZ:=NH 322 "2ciP8VklTrJYzuFQS0PtvEgicLPJzoEzireMYTk_JAl0W6qG8Bwbr84eNWuOQiq_XDRm1sBtUJlzCNGHgeBCYEZTRrud"
def tC:=NH 323 "7QaSSDIn1DAm"
def tD:=DN 324 "1NADb96iyHb1oh5ZOZlB8yhYvszhbJ4sddvEG3Pkmga8ZDLYnatMBNaITrYo1EG2mx2noEF0BKdSRtMOfCV"
def tE:=rd4 325 "1MPPQ7pzVVCCYfoqEfIiBpjzM3yaOmsm0LQTmyjttQrPsybg3h_V52YyerxSbHYBMZNctmkU5xIK3CvcdMq8Kq6lGFXnMM0xfHkGkAv_J9HxDpUhhk2TiiME8fCIIsjBQnmCQ75gwJGkxQzlksjSA7TrHijgbD7NSJXRPbBcNTXwa7jkQ0byrqFWDKPdRpixAcJRdHVTYJ2Dp65lMlmQOlaOC4GJ0D_J_LRJSo6yOsyilZ89kXJtzPmUp7KS35a9U8TNceUVG_DhHv1I9WRYJ75qV7i9n7HU37Pj9fq4WFoZWnh_GxspHVJRIR" [] [zA [(0,1),(1,1),(2,1)]]
def tF:=NH 326 "1ZXqcTUl9qtE1mFwCT_Z6T9RHGM72CfCtVXS2ilP3ThM62L9wLmUCRVXug3" [] [.Nr true,.Nr false]
def tG:=NH 327 "HydThgeZuK8oZAMa4QcdDU5ZlMqnpUsZVQ8yjF" [] [.Nr true,.Nr false]
def tH:=rd 328 [] "2dSUJTDqBU_lhGVF6M9pL6eqsMvv01GlNzJy33mS2P5PEwTNqZjvtVNyta4DVE0z5Tciru9" [S [116,114],S a3T,S a3U,S a3R,S a3s,I 11,S a3y,S a2K,S a2B,S a2D,I 20] [.Fc [S [],I 0] [(0,1),(1,1)]]
def tI:=DN 329 "1LTOeV9I0qQUBuqaw4TADnfPK9nUbtsEjO8gsSG8Sj5iZu2w834h3BE4GtFHtc_xUDOUzlGwoBWsTzAFd" [S a2z,S a2K,I 16]
def tJ:=E5 330 "3_O5YLNNAol0iKruY53P7FjV6IwdFKAhG33aAL4YeF9DWgJyLXnwrkCtPT44JWJzX0tbUO0QwiUNQYHrfu4VdW8PhsPQGo0lrYXV6F0CgBGc1hIbcXM"
def tK:=DN 331 "2UVU_zUNPMH"
def tL:=E5 332 "GufZKzKpJ09KWzd"
def aND(p:Ad):IT:=
 .se [p,S a3s] λa=>.Hs a (.rr [tt]) (.se [p,S a3y] λb=>.Hs b (.rr [tt]) (.se [p,S a3T] λc=>.Hs c (.rr [tt]) (.se [p,S [116,100]] λd=>.Hs d (.rr [tt]) (.se [p,S a3R] λe=>.Hs e (.rr [tt]) (.se [p,S [116,104]] λf=>.Hs f (.rr [tt]) (.se [p,S a3U] λh=>.Hs h (.rr [tt]) (.se [p,S [116,114]] λj=>.Hs j (.rr [tt]) (.BG 316 [p] λk=>.rr [k]))))))))
def tM:Tq1 cx 333 aND:=λ_=>Dv
def aNE(p:Ad):IT:=
 .BG 335 [p,S a2t] λa=>.rr [a]
def tN:Tq1 cx 334 aNE:=λ_=>Dv
def tO:=DN 335 "79ZzTCYMb_jOcfWgDLCca5cvCQ1RkrD8EmaSy_ICyOiU_aTC2fgY_64N"
def tP:=E5 336 "FJN3ofYpjvwZvQcE_HRXnrVayoUP8gcZ02IL6irlFTiC6su4woH4UHeieBc"
def tQ:=E5 337 "1bRpwPSkPnLvzYdbGptQDvVRUPOEzTJ" [S a2z]
def We:=DN 338 "JscskyP0pIM9QEtc982a8V5gQ9yNshWzJ7IortxRsKO1ZWkqcd2eiaMWmclt_nB9AlN1AhQ1Y4gxObNDlTfYwCZ5i6ulLt7jZO8NmgV7vJ" [.map none] [.GH false .mp] [.I_ (I 0) true,.Xc (I 0),.Qo]
def aE1:=E5 339 "NjEwelwe72zqU4lgBGropI5Wsj6hfQ98S34vpc0awsTDbx8JyQMELRu4e_p6U0DoFxnIJRkUBK0goXI5Ow3qahmPmFvnOd0cZP6QJiBNhocMn6uI8zRvmMQlJRzHPagqViaIkNvW6JwLI" [S a2z,S a2K,.tuple [I 0,I 0]] [.part 0 none]
def aE2:=NH 340 "QZqg1Z6CMS5_DdavOjyankGdhlNscbRg8_vbuuim2_8yV7OoYa"
def aE3:=E5 341 "BDfaMO" [S a2Q]
def aE4:=E5 342 "6daD5XCmp51AxB4F" [S a2Q,S a2X]
def aE5:=E5 343 "52oDLuI_G5l1"
def aE6:=DN 344 "Dp8l4zSbVfEz0rkY843lg1Rv5y8r_gv4rnnWfO4lu1F7Iq_2oZa91D"
def yc:=DN 345 "TlDBD7mvUT5U4bh22l2cQcre_9"
def aE7:=DN 346 "2NYlEQ7UySOte0jutBwBf4uWyWesY2HJTPg9992KHR_EAjbSsRhNlEevhpQzdOFKel9Sg8vek3"
def aE8:=λp q r u w=>rd 347 [p,q,r,u,w] "1U0CdfgIhaO07u51wbLRacG3l2_nMiPREOzWu6MMCxUspbXMvIHKGCOvaTDhqryaq69pUF4XWBGG8rXIadPEwBYYyXk0zdSLeTjgg5M3Odh1Ik9pdHADzUPdmUDa40ke7q3NtSgQBljAR2XDQFHD5YO349jKA59vA14wBQh4N0MECqPC5rPCkemypSC4yqtgaOFRn_3VkzKdwZ6LsxkCbWxkKwivTCiZT6HTdQASbq7gnx6BLkfAn8rNFgwxK91GBwpg2ZzITBovPC7ZyzYmDOEkQVYhcEYy37QbcvoZLQaeG2vMaL2iEVHgot5RlIFIICMBycZ2ItzDS_ScpguGH02mB8T2mGNQYuKLzxhmwrlAP0bke12pzFqi24n5KpvtdEeAkRvdpXtG2KTvG7hkUzxQOq_qSokpOhr4znjeAbQFF05RwHWmY9jmNBu" [.tuple [I 0,I 0]] [.LK 4 false false true,.LK 4 false true false,zT [(0,1),(1,1),(8,1)]]
def aE9:=NH 348 "3nxTevgkv6u0tAUrM1iO3Z4hBfJyN9s84wV9hh82IsWfCthHsDaBkcSTfwEfB47BC9m6bzaaAfyvNkN8_xFHixrR7v4o7O8D8jUFqrKBCjEt1S9G8lHfklbKF9ci5QmPT7NRGVqfU" [] [.LK 4 false false true,.LK 4 false true false]
def aFa:=DN 349 "hFcUjbsLl1RSQvx_Rc3PLLOp90gYosdDhUiCDC5tYs0M0aWDoVBNJplKlHzcHDwMYQAUfvbkjbU7ts9QKAC" [S a2z,I 16,S a2K]
def aFb:=DN 350 "5snuJEkc5Wk8i_Q3Ag5NTKiBsvGXI4bFgwbla7bosDJHRrR8ZgUztVjxXGKtC2Y5AlbeOPlRj2wuepuo_9KlvmKtBe2A3Xn1q5dgJAc36oZ8JnWgN5fNsaociHeX_dKFzep" [.int .u8 32] [.LK 0 true true true]
def aD:=E5 351 "skOGELZv"
def Wf:=DN 352 "xJvVrbgGLm5G6"
def tR:=NH 354 "4AS5XE6ezvf4rvKeH9lpCgm1j2xGlgEuepPvlnYPV" [] [.LK 1 false false true,.LK 1 false true false] [.h_ 1,.H_ 1 true true,.clear 1 [I 0]]
def aNF(p:Ad):IT:=
 .FZ p λa=>.ln [a] λb=>.loop 3 [I 0] (λc=>.il [g c 0,b] λd=>.Hs d (.ea 1 [a,g c 0] λe=>.ld e λf=>.op (.conv .i32) [f] λh=>.BG 407 [h] λj=>.Hs j (.ib [f,.int .u8 65] λk=>.ia [k,.int .u8 97] λm=>.ea 1 [a,g c 0] λn=>.store 1 n m (.ia [g c 0,I 1] λo=>.rn [o])) (.ia [g c 0,I 1] λs=>.rn [s])) (.rx 0 [g c 0])) (lx 0 (λu=>.RL a λw=>.op .aQ [w] λy=>.rr [y]) λu=>.rr [S []])
end Go.Am
