/- Lemmas -/
import Derived.Test.YtjbidlnjecppfaaGreatDoorS5
set_option linter.all false
set_option maxHeartbeats 0
set_option maxRecDepth 100000
namespace Go.Am
open Go
def aER:=NH 284 "rnT@Ow_lR"
def aES:=NH 285 "@W2@2pm<1"
def Ij:=DN 286 "Arlh8>F<7iW@M|7Rch:4B_jvFBP|b?5rv8zo3Xz9zl;_w=UF_J2OuvIM99B^O8Su|7V5P>`CfG9UCbqIErrY}rp85T~6J<u[Lav6Ry~ABUAZ}83Mxtc8:7x|W@eG6nthA>[A@0;fo^a1GICzvtP2jC:8b0Zl:mV>wJmUT2m89X2jkJWEYjOcOF3b3=~2>n}AQBecHILL?^OC5T9A@ftAYTfFoH@z5mwe_Dyz_0OAaSfX@6kCX]KNNGCeqcV5P5@8Yb`;^6D`}n]b5XQ1lf:ONCf5U}VFu2OniqMzHEq=~T1mif`9SvCjvJPrO2l|>Vg0ey{n<<|yhDu^64KLrLqzP0T86" [S [97],S a2F,S a2P,S a2Y,S a3a,S a4U,S a3t,S a41,S a4a,S a4c,S a4V]
def aET:=NH 287 "3Fyny`6{C6@t[whp"
def aEU:=DN 288 "1Y@xc=>Qu2raF8"
def aEV:=DN 289 "kmVW{T[=i73iz:|>F:Wfc5ycPFb}2mPhkemfSpzC7AtMIti"
def sF:=E5 290 "3Kmsk|xr{VMIk]CR63pEP<x:DN?EIbT6TTlj;_4[N^e]_t39vHFwbVtURjUVks^G"
def aEW:=E5 291 "5Uc0?m`^8oseahZ0yz0F~tPWZc19hz>oKqI`NmA0YRRc"
def sG:=DN 296 "BMnFuI"
def aB:=DN 297 "Cxmap?mFVCYA4ucYbUp"
def sH:=DN 298 "4FTGxIn~iW=" [] [.part 0 none]
def sI:=NH 299 "J5[0<BFJ:cBp}P4[I^[P7S8wwZ" [] [.LK 4 false false true,.LK 4 false true false]
def Wc:=DN 300 "1MGfwIjsMV:g0}J~85>ICmamz8=iV}3yZ3ZfA_Mrx}T3QWv"
def sJ:=E5 301 "GsPPWC]mq0aao" [S a4r]
def sK:=DN 302 "BMnFuQ"
def aEX:=E5 303 "2GkxIsJ5ym{7CUOJJ:4w{lYM<<0ItdFzbldOD=T[proJMyII"
def aEY:=E5 304 "?JGhr:rd;I7UvE`a7q{yK}n_Z9LHA[<C8L<3VFdo1ZWu`=c78Ry5USEv[hS6@XG5@Vth05S7aHscoY3>nPB^sht4G9`HydcKJRAx;9k1[}E[v3=~ft~5PV^Qu[yxzqX_qg_q9WXme|A3>{~6x_:gsfz24uIF<UxnRVHx"
def aEZ:=E5 305 "4xT}xiw0Sd5O1^97YM@Ai" [S a2z]
def yb:=DN 306 "3CQKkvGvM=:IIxx_>?scp=F2aDcS6h`G<QvJG4tBVBg=<q"
def aE0:=E5 307 "24O4H6jClAEDsx_4]UaN3s<>1}mLNlHfp]uyPy@kPpxfOKLE4assd?uw97XCsFhMx0egmGXfPQ9" [.int .u8 32]
def sL:=DN 308 "2BJ[yRVvA_msN:zS6I]{eJ5nPwZ[DeV=NZBh0iV" [.func (.func 389) [] []]
def sM:=DN 309 "2hh6q9nkAm=DNR~gIn" [] [.LK 3 false false true,.LK 3 false true false]
def sN:=E5 310 ":eX^qvEklq?DYJ;4"
def sP:=E5 311 "9<YLN=uFz;e1[E8TuB]`VMaUf_Ngz0|SQ~e6V?k{Wtgv}FJMWE;nY3nqrJ_Yi0MWzKBdNa4~wYY|^3?YLtCfqT0nAc[LchcCK" [S a2K,S a2z] [.part 0 none,.Nr true]
def aC:=DN 312 "6RnAIK9UX8nRB2dG?Tme|7SN@]J{=2RKJ{A`m^lEmMB7b[Lzz1S}A?na}ak?L1urWFhqp;^8ZM3xV>mj4m?m8i8y[8ncF8RmBUxtKY<WuF@eawNP=4<bCscyCpFHa=V;xe{iYi3?JiG@>w;O14mWQoXfGi020HCYMt2`4WcGzI1=@|yVdOrxO|<t2z;Bx3w;_?nY[_Mu|@2{nka;5AYNYDsaqV2~AKoh[ZuA8A@;obR793RAZZTA6{;=GgGWHkvx=fB=J9U[hVhU>DDc`[0<G7lh2~:mM5X6bXaibIHvV`6wfF<s9E7CgFqf73p;Dm;}4Nd}eyVph[AzE0_h6l>n0DDRd`ywmwy=n}yS" [.int .u32 2047,.int .u64 6,.int .u8 192,.int .u8 63,.int .u8 128,.int .u32 55296,.int .u64 12,.int .u8 224,.int .u32 57343,.int .u32 65535,.int .u32 1114111,.int .u64 18,.int .u8 240,.int .u8 239,.int .u8 191,.int .u8 189] [.conv .u32,.int .shr]
def sQ:=NH 313 "1AynK~81cw:3e4@XGjQMZ{`HIonIoM0}^s<A7xY=zD"
def sR:=DN 314 "A0BU2BCD"
def sS:=DN 315 "wVhnZFw9{Qq3zT@mo;OLeV"
def aNC(p:Ad):IT:=
 .se [p,S [100,100]] λa=>.Hs a (.rr [tt]) (.se [p,S [100,116]] λb=>.Hs b (.rr [tt]) (.se [p,S [108,105]] λc=>.Hs c (.rr [tt]) (.se [p,S a3J] λd=>.Hs d (.rr [tt]) (.se [p,S a3a] λe=>.Hs e (.rr [tt]) (.se [p,S [112]] λf=>.Hs f (.rr [tt]) (.se [p,S [114,98]] λh=>.Hs h (.rr [tt]) (.se [p,S [114,112]] λj=>.Hs j (.rr [tt]) (.se [p,S [114,116]] λk=>.Hs k (.rr [tt]) (.se [p,S a4a] λm=>.Hs m (.rr [tt]) (.rr [ff]))))))))))
def sT:Tq1 cx 316 aNC:=λ_=>Dv
def sU:=DN 317 "47CZOmV^pi0TBC[{`Z9gX7sp>Dq}8T=Iy?a}ozcVye0>d:4y>~tK"
def sV:=DN 318 "19m^YT"
def sW:=DN 319 "19m^YT"
def sX:=DN 320 "EiP_{]|xOHpup?~uYNm4oC:N5qZ|rZ[61DH9p=" [S [109,105],S [109,110],S [109,111],S [109,115],S [109,116,101,120,116]]
def sY:=DN 321 "<B<VSjLc{0^;ouRt^hEp^_|7`um4]apnm@HVNmB4Jsc@^s9CQ~k0b5Q43j9drbH4N_~0_TN1aP[okW"
def sZ:=NH 322 "KYkwFmUFvuM?Z?1:QO>aRf>RTIuQagn09ZqY025EpKPBut]ywPlySEeX_cuu0;|eTCoWxHyjmzNja{~[rj^3pXI"
def tC:=NH 323 "hCTIlg{px2_"
def tD:=DN 324 "1CtEzduzA_4b@S1]yfeBXed[M=7ZS=EapF40u;DBi]IcGEk2sGlPR|Wo;v_o5~Trc;X:L~~cfZujS;C"
def tE:=rd4 325 "GbrZv}hZB<A2s8VW>y2p|NmThmH:cENsL>=grsA87:XP_6=iic]c<BTZ6A0b:OIWH<V<>fwGF0E2MXg>qh2b~9kO}=cP9~h^=2LrHcFHJ[C1IXcEbKdxK[q8<eTi<GhJObhL3B7Q=BDKNN|Pq<{urf9{[L~|]cPc:y1:2g<rL2S]5hjbKNQ1@Z}?dxs>c88t6@B5~D{{;Mk1_u6Jp`p~iVeul4q:ZM3MRDmZ>;jTtIu@mh@ES5R1:WVmmH|`1jS3zF;ZMskcLH7t;zW=k|dX@nn[P0XRuos?<_E5yd4?zj" [] [zA [(0,1),(1,1),(2,1)]]
def tF:=NH 326 "37VO{=3aie@m_0~Yhzh<xWF=69pRT]}@fA9PFV3r^1P}Xoh2EztA0mp<" [] [.Nr true,.Nr false]
def tG:=NH 327 "XS~Vj<>XU<[3Z6FDm>@QEUaTn6db@5ia>aOT" [] [.Nr true,.Nr false]
def tH:=rd 328 [] "ORdkeB8QCp{_yY_}aI9T{_S6]ZZNqlm:2f;^nV@ooL5SOoLvw6mTa=^5=DBTV32WY{d" [S [116,114],S a3T,S a3U,S a3R,S a3s,I 11,S a3y,S a2K,S a2B,S a2D,I 20] [.Fc [S [],I 0] [(0,1),(1,1)]]
def tI:=DN 329 "1v4bY`qjaawu^qe]pB8hgCAYHXJn]{YV;fx1quK~GMrv3rrU03<El6J~6FPaVuh2gD<x>6S0wgtq7" [S a2z,S a2K,I 16]
def tJ:=E5 330 "EV1csOfO<NzOh{lV{^Bb9dJO2kf@E^m0^zTx5Ur_9F]G=5ZduEBo]QmNEZ78SAl`hqEU2}IPY[gdEqCRC@81:quY<1^AU?u?v]kyy~MKU|UVC"
def tK:=DN 331 "FvkuAwbHP>"
def tL:=E5 332 "sK6812_jIe[YeR"
def aND(p:Ad):IT:=
 .se [p,S a3s] λa=>.Hs a (.rr [tt]) (.se [p,S a3y] λb=>.Hs b (.rr [tt]) (.se [p,S a3T] λc=>.Hs c (.rr [tt]) (.se [p,S [116,100]] λd=>.Hs d (.rr [tt]) (.se [p,S a3R] λe=>.Hs e (.rr [tt]) (.se [p,S [116,104]] λf=>.Hs f (.rr [tt]) (.se [p,S a3U] λh=>.Hs h (.rr [tt]) (.se [p,S [116,114]] λj=>.Hs j (.rr [tt]) (.BG 316 [p] λk=>.rr [k]))))))))
def tM:Tq1 cx 333 aND:=λ_=>Dv
def aNE(p:Ad):IT:=
 .BG 335 [p,S a2t] λa=>.rr [a]
def tN:Tq1 cx 334 aNE:=λ_=>Dv
def tO:=DN 335 "JtgKMkVJM0LS~B>HRBD}u^cuBD~]|>A{]wyvDZ{|M3SuBZb}d3ZXA"
def tP:=E5 336 "NGRLHYAF8NiO8Bq?moum}z0O=X>X|cRDZ?MnftuMZ<_RbWtf:`K~V[N3"
def tQ:=E5 337 "@<V;SZTU3_TCH<jjj]s1NRSX?lVS[" [S a2z]
def We:=DN 338 ":TK;YMLs0<z8~K^etuzRV6<y1ZG]8ZcNqOuDG4DNCyNTb;KGRvHvS8<38KGdJg@Y|0]ISbE4F9JPS8J:}54@o=G:^u4PA4?l2<wzF" [.map none] [.GH false .mp] [.I_ (I 0) true,.Xc (I 0),.Qo]
def aE1:=E5 339 "[7g^]YhezY;eTRYLPQiqdXT4PwoQWjppUa~7rMaDk8Y:zT[~l|SkB7{<D~}UJd7K7vu1=1ZkN<sExJWE>qd:E=VvJ6hKjsw;grAf5oQE_jp0Y`EYas0CIwLGbKs{=Xe;<9sbH0" [S a2z,S a2K,.tuple [I 0,I 0]] [.part 0 none]
def aE2:=NH 340 "4`Wqdge;t[w>V{oeeD9pxY5@sCfZi<c;LcpaCiZZ8xq4=v1b"
def aE3:=E5 341 "3skPsd" [S a2Q]
def aE4:=E5 342 "E3qU{zyWcR<td`j" [S a2Q,S a2X]
def aE5:=E5 343 "U[3DU;H=eTC"
def aE6:=DN 344 "11a}wPJ4P=qtrJ}V=m753}^LgKZE:TJ<vDG3Ks[}pAVlM;:Sd<kn"
def yc:=DN 345 ";;4C{cHJv5quq`Gl}kuovAIbs"
def aE7:=DN 346 ">v9`rmn[nt{9bay1ZaL@^yo|l6]_nP6;x1k?v}pTvBKy^?aiuIEjI?U^XTRQ[g}MOSpXNE"
def aE8:=λp q r u w=>rd 347 [p,q,r,u,w] "6EqOrRKzFCt5QlQeW[EDO_S`D>PiG88cN0plj1c6cH{J_9rLMz]B:XaP1aWQ1A0tWZ92jb3@?{Ho@bKNrBD<CS|QBJlPu`NzmB;AKRu2lt|[O2hLLr>urUyqHAOJlWYqTZ<3Z|4xR9=nMthn|?:`V{o05L2]S=G;7@Yrz~mVHMW<RUYlkhsqL;6[5f2^aUHEsbKiumPyj;1`]|2hM?dOWg5JSY8}OL:Vl__Z[IqWXmYy_6B0SqXmRp5dl;?YSI{rX^iTKmk4TfHDfiB0Xw1|hjn5EG~P8E0Jz1sA;SfT]MzHFi|1aV>;xE=GvTwRZ?1k6T4mEYGYpjEeBqgW69C:3r=m[`1kO4~@vEdIa|{ow>{V[`}b[:WMkFZLvNgSX:ZySd:E{:ftmr2no^K45Guj50_T`C]SoYEK3WaSB" [.tuple [I 0,I 0]] [.LK 4 false false true,.LK 4 false true false,zT [(0,1),(1,1),(8,1)]]
def aE9:=NH 348 "@CdeF{;?kNvERE[RJ|wJAR7[b8GoBQGFb:qC0|d]aSfSnUXyjGQ30]0vnSxE~SRWZgzgZuwof0NPJjK{w=JRO~AF=|eIa{jlIiT_=Rh;wAgFXnQOP}Qa{XI4LumPg`Njly" [] [.LK 4 false false true,.LK 4 false true false]
def aFa:=DN 349 "X_=ZP?YmZH{HFQo?7A>Pom7{nEJ2kfz`EG7Hdr]q]CyE4zr2=VHJq3eB{Om~Vv=1j;WVM_M=|B<@3_d" [S a2z,I 16,S a2K]
def aFb:=DN 350 "1<Sea~nS}=wnf@Df>n<xc]4cio_nA402EKXJx]gvsKKpPN7[_AhL>[Tf<;9olU}En_>0cpi2Cb?v|{Zc9hk[UlvC=]bk[4f|K2z56]An[l:i@6~kU:zd[hVBU>b?I" [.int .u8 32] [.LK 0 true true true]
def aD:=E5 351 "<W<pe}Lw"
def Wf:=DN 352 "4ccCyo|??x;pH"
def tR:=NH 354 "4zHwx[IaOTQ|M`B{ruO_CpUyZGx_hBAxK8Iq@Un" [] [.LK 1 false false true,.LK 1 false true false] [.h_ 1,.H_ 1 true true,.clear 1 [I 0]]
def aNF(p:Ad):IT:=
 .FZ p λa=>.ln [a] λb=>.loop 3 [I 0] (λc=>.il [g c 0,b] λd=>.Hs d (.ea 1 [a,g c 0] λe=>.ld e λf=>.op (.conv .i32) [f] λh=>.BG 407 [h] λj=>.Hs j (.ib [f,.int .u8 65] λk=>.ia [k,.int .u8 97] λm=>.ea 1 [a,g c 0] λn=>.store 1 n m (.ia [g c 0,I 1] λo=>.rn [o])) (.ia [g c 0,I 1] λs=>.rn [s])) (.rx 0 [g c 0])) (lx 0 (λu=>.RL a λw=>.op .aQ [w] λy=>.rr [y]) λu=>.rr [S []])
end Go.Am
