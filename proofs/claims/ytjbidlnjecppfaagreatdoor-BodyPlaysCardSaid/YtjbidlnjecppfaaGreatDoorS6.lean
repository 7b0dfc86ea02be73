/- Lemmas -/
import Derived.Test.YtjbidlnjecppfaaGreatDoorS5
set_option linter.all false
set_option maxHeartbeats 0
set_option maxRecDepth 100000
namespace Go.Am
open Go
def oe:=E5 65 "ISUjCN4_XqhTk@T8sqivuGw}~9tQiGkF3Rm2~HH31Vy^B=vif=G:SLQ7`EsCfzyDom;>JyTILKybzXa<lSTIDnnX<16QiUsf|BKs0E46lh@{g61wm1t4pZY|k^OKYI89ghAl=@6wefM[J^^soZANhc^W6n8kogyy^wwHDxRkdpoC@|KwopvKP0WrL{L2ZSfxkA_9"
def og:=DN 66 "U13Q75Ui:gy6z~q3]FrZw86m|VgSRt_9wF~v}AC7X^vtX?@4exyZ|Hy|^4ZJGXjr]tV;z]XJ6pDvXWW<7x"
def pK:=DN 67 "N[CFzEx5r9BxnzylH^wfi2PXVG3JEu4ptZX{2n0~;B0fQp}}Yx@E1[[[6D=Lc;a59TDmguG0U}4WB;Mh=m>2I_q^^o80DJa:7LTtZN[:^o@49bO"
def oh:=E5 68 "1G3MuR0GrcxL=vwK?EcSS3d5LC[6Oy2ZX1NyG>_Zk8yX1IVLySCsBWfu=vbV0Ob1twTi|o^|evv_XNtk0k_8wM_}K4lF]39RC3zR}?sxiFqA;iR:cFdKYAA60?=0qH1>Yv6pH17M=USu3>Q_ojp["
def pL:=NH 69 "1jR39@xHWTbs}iyUdOgHBWIs>eiruz`E=TC]V5Al:tetPTi]<[bl;D?Hw:;G9`}QJ`qtiGMf7OX<W<rYR|57FTa{~txvqdVZd1b:hr`c^MnlV3_;s3RhiNk^xwhuq7|iR" [] [.part 0 none,.part 6 none,.Fc [I 0,S [],S []] [(1,1),(2,1)]]
def eW:=E5 70 "?95wydxuR<luj`=9[KQ=7lCL~dA^4>dcorRMrH1NfjVuy^kt0JJstWsb{8{E:Tzbs9Ji~s621eUS" [S a2z] [.LK 1 false false true]
def oj:=E5 71 ">{dQxa701Qb_r"
def om:=E5 72 "53wMd^L^f_uyi7S=Rj3YBC>1xx[tv" [] [zA []]
def aJJ:=E5 73 "6H~55gPAwvvT2" [] [zI [(0,1),(1,1),(2,1),(3,1)]]
def eX:=E5 74 ":Q{_q]Whe]h|TiR4]Fn_Oq;UE|M4Y2YfT|4{L6y<J~" [] [zI [],.LK 4 false false true]
def oq:=E5 75 "7MToEjXDxb=kEQx@4s@>@@{Vv]E<TZK9qQOn?49G0;^?{S" [] [.Nr true,.LK 3 false false true]
def ot:=DN 76 "1<diew2WVU`=4" [.func (.func 194) [] []]
def pM:=rd4 77 ";ECvmK65=T1[pmDwyn55~V>AX8eTRC1tBq9lLrSu^Vz3ozwV>LACvIMJnsnWCVZPTN~vgr9;CD^mU3QjtpK{IvhweHWNKHVAUpK9Y30:Z?SsNQqO_e>yvriFt[Ed4H_" [.agg [I 0,I 0,S [],ff]] [zI [],zI [(0,1),(1,1),(2,1),(3,1)]]
def aJK:=DN 78 "3gKtf1DR"
def aAG:=NH 79 "8>JWP2jBtaU5laJrmOavN4]Z_P[JuvIN]ZMhcvxtGF^Sho7Q^AKkAr7I3i2"
def aJL:=DN 80 "3pM|UU54?`Z6bq]VHFX7y8MLiD}>" [] [zA [(0,1),(1,1),(2,1)]]
def pO:=DN 81 "2wejbKmo]l7Qh[KA9Ox^CR1OrTrznWdIXwZrs[BVXdagVrh~8vffuqR3>d~gX=thl80bL0wE:PV1kv3hoSMq>WEop8xN9jhkamyJR:T[i_TKO<alDg]2I[DsmmxV_eL0X?C=Dl6KRf]8st8>ajSXs~xeD>PbF3MK>Te{X}zk:|n}1}z~M~QG?TA;fPoZe5rm2kSSBk7uS?SV^B7znC~G7y}[emmfl" [.int .i32 65533] [zN [(0,1),(7,1)]]
def aAH:=NH 82 "2IZ2hCft`rrW`78;>H4wOR6C9ArfKkN~>Fdubw0f93]DhTA_=]}S3=9px_L4L@{ER>8N_ZhY1SlA^XIO@8|l7wPFwP6M[vUTe9cK<u?lSNFT;9" [] [zN [(0,1),(7,1)]]
def aJM:=NH 83 "1t}m}MjU`A0RhESTHe}Yj;Geo[T"
def aAI:=E5 84 "6p~HShb]^gj2irW9K}lr1cXb?@Q@xALd_D1>jzVH<77o<" [S [112]]
def aJN:=E5 85 "2]uup8Ru=<`qz`Wt>PoXTe9[in]7dG~M=wxPoPC_5cm[HSCe9OGa[]_lAbmNg?ekFxE@@v;ML540DhCLrR>>S<DGAsktE]l5s3Y<>6{9F2MVpd}alc?5uE>~hIl}MDqO{>{z~c" [] [zT [(0,1),(1,1),(8,1)]]
def aJO:=DN 86 "3RQ1X6wtOgepMBba5oaTI}y2P~M<ENSNs8BFUHt5}jAX2L@k7vG9SF[KRPDhlKW8Yzh|QG{QfOqD2?SdUIA`p4X"
def aAJ:=DN 87 "5frFi|aIB>p6xUW9tZa?|CwjT1na=ZplS1WsNX7B4W5N@XZ<n?MXjRJx]=bIwHP?FMWT2B{vy4AG?l?KYTyGAmq^95Vt]91Bk}W58RS:e`DZXpVt7Cw50pEG;r1" [] [.part 0 none]
def aJP:=E5 88 "2JxVItv:hefq?zDONO2z6AfP<<8rEX7[^;gdi9`8LxKa>>`7gSE@L5<C=3BD^Wd<mnS4c[B;er<y7e`1QQP2W~V:01EiTJFx4Ra_7_?w]_9iCmHbaHWYi?3WXlt<FkYjq[Ozi``Y<?ICJ~4{P"
def aAK:=NH 89 "4bQH2K87~~[N4=9b3iHGo7B@_nz^ls}S6HoN1|JqydvoIC1ic|Y}m_m}?mj{`>7W2^z8N9=9N=o?kn>lh4OUSdq|D" [] [.Fc [I 0,S [],S []] [(1,1),(2,1)]]
def ou:=E5 90 "blYQuf:fJ?vK[:k15|;J:{538c6CE~{:<|dvtuMxj{^>B:BOyKF@@h2O~3uj;dqbA9D8YnBAXeK1r1w7K}}}N9Pc:lR" [S a2z] [.LK 1 false false true]
def aJQ:=E5 91 "lx}xwn"
def aJR:=NH 92 "1XZ}Z0M4Otz=?MhXIoWxBo]nm}GDWU0Kd4VU125=y;O@VoSBC~sNMKmjQ=8>~Y4b_f1G:s{?~|iS6hZ0kdfwOyO|R^QIsQq5iFRSgSOu2cFz4Ed35WMNx7M~t57:Gw[pIIOpNH>f[TX6[<" [] [.LK 3 false false true,.LK 3 false true false]
def aAL:=E5 93 "DrS6S1E[kVsq6Ylc~4Y[MC~upADkf_>@d76" [] [zI []]
def aJS:=E5 94 "Q<H?ehOx@BM{2A5I<S[]KCHsx7S" [] [.LK 3 false false true]
def aJT:=DN 95 "5t0KH48=O5HTgohQ@PZN6?QT:U<{U?yO8t~^[G[md;QDsoHc0^J^:ZDpzI"
def aAM:=rd4 96 "2zUw|aCw]8Agvs47M0B=IP@BU7Ub|l07WNRd4@5K<jnL2kUBi]bEfIC8?c?uqmNkeuI|c_lEva~Fh>5U=^05wsbp}v0p]8FN4xGo}{H=uS_JxYe0@M6hW[re" [S a2z,.agg [I 0,I 0,S [],ff]] [zI [],zI [(0,1),(1,1),(2,1),(3,1)]]
def ov:=DN 97 "2i<=XZ}16MiSeJx|mUVj?:DU{T@QVEa"
def oz:=rd 98 [] "XfTkslhyAUYLt7Qb{X}=8;w;t>c4FLmpj[AQJhH>cw]SFhj1^`c7t?xo}[p<]kKymiGvP;" [.func (.func 24) [] [],.func (.func 25) [] [],.func (.func 26) [] [],.func (.func 27) [] [],.func (.func 28) [] [],.func (.func 29) [] [],.func (.func 30) [] [],.func (.func 31) [] [],.func (.func 32) [] []] [] [.ı]
def o_:=E5 99 "41M<LbH0yzb3WeJ"
def pP:=NH 100 "an@Ed5|:|hGwFO[vfSQLdO"
def ZI:=DN 101 "feFBCS"
def pQ:=λp q r u w=>rd 102 [p,q,r,u,w] "Ogi1^]Y091J<jC}qnU" [] [zN [(0,1),(5,1),(8,1),(9,1)]]
def NS:=rd4 103 "SLcfoX>a9jd7bm8|0L:~itftC=>HTNxk~_xq9GM[3mv@K3IOCKO8:j_ujXq]xJUhOfmG8wuywCeN>iEAgAdZQ?s3T~FSmmWfW=^JP1k>va^>@fiAG?=yM6lFEYk=HDV~40MR<2Gw7ctbhhk50Bn>lED}Xr071=~^p]RI4B@{~|k|xH3=F=YLll[]UtzmAmD<:6aV>=_8K1[qqrRh?]am:HIGB=V2sKf?=JRag5>;3z9e3NyEQwgKxZ=qKZQLIBB5M^m_{|8y^ImWaPsD0?~8;vGC06e0{cKXD@GA;]WbTqT6owDFSe:f;_}h_Za[_9nfyy]SahH^iWmj<892|lp4jD|4gb|HomL0d<5mPh^yGw[0NV0Lv]]tq~5=BV?_hNV>H|eaX;K|LHrfF6wZQ~" [] [] [.Ĳ]
def pS:=E5 104 "o1t3_5N:Y4Jj;}]s`<CAZa~HKNxh;6]Z{vHzSD:}9kck3cntX?zoOPwj@s7ltsqo5}a52t7Fn;mCsVlQsaIH8UYdS:7XqKT13L>K^;r~?Za<06[2H2bm|iPclq21UjX8z:jY9Zt;EX@KcK>fD1VCiN5DgH]B}l]Z3B66lDTWyc3heh@:9sUC`Pandih:qA^a;b`O5Y>jmBam_MIS<91url`kw>MFV:Xi^7QuF0g^4V6}mgVAOTYDoJjd_=Q4{pLF5[qCsae5li" [S a2y,S a3k,S a3l,S [72,84,77,76],S a3m,S a3i,S a3P,S a3C,S a3W,S a3v,S a3w,S a3X,S a3q,S a3S,S a3p,S a3j,S a3c,S a3f,S a3Q,S a3x]
def pT:=DN 105 "6^`G8ywY]A69@kJ2"
def pU:=DN 106 "qBBuoZVIo:TJy3]"
def pV:=E5 107 "2X=cEDxDx" [] [zT [(0,1),(1,1)]]
def ZJ:=DN 108 "7SFPkc?PD4hSq"
def pW:=DN 109 "10FB:iid_5bH]`e"
def Tv:=E5 110 "H25INgJumcrb9" [] [.GH false .sl,.FT 1]
def pX:=NH 111 ">d7ZwncRxzlxvl]pM33uAQg`?x@Bsc" [S a2I] [zI [(0,1),(1,1),(2,1)]]
def V8:=E5 112 "1;Z8<3Y86roWp2qwus[CYU_V?SCJoRIhRoGW9Q_k~vB^@d[" [.int .i32 0]
def pY:=rd 113 [] "7Tj@_lf9p?r{mn>R8B5>6fAM2]WlmVH<8A[pcT9i=khzAi{@idT~uu2yA^[tei6P|qkNN`oioK~_JBbO@1~jgk1zN;mh^Wags=6mvIE]xhP6e><V3d|jZID`N[XsmxP|Q8HW:lFMDKoetk?ukC2Lw5l2DPe_@{pEOn`bu=9v6K7PjJurrj5VDTFBEWohsgfAuhJ5]S1i}H4381`mc=_rc{dBex~P2o2~S[5bCFit8mdUE" [S a2w,.func (.func 240) [] [],.func (.func 242) [] [],S a2C,.func (.func 243) [] [],S a2L,.func (.func 244) [] [],S a3B,.func (.func 245) [] [],S a2F,.func (.func 246) [] [],S a2M,.func (.func 247) [] [],S a26,S a2E,.func (.func 248) [] [],.func (.func 249) [] [],S a3r,.func (.func 250) [] [],S a4w,.func (.func 251) [] [],S a4c,.func (.func 252) [] [],S a4Y,.func (.func 253) [] [],S a2Y,.func (.func 254) [] [],S a4R,.func (.func 255) [] [],.func (.func 256) [] [],.func (.func 257) [] [],S a2D,S a2R,S a2G,.func (.func 258) [] [],.func (.func 259) [] [],.func (.func 260) [] [],.func (.func 261) [] [],S [97],S a2P,S a2K,S a25] [] [.nD .nilFunc,.Qo]
def pZ:=rd 114 [] "6|thhXtIsdJ]t5_W<Mdt?}3vHyT7{nI^JSeYdu8SvF}~9ZX:7x^V>NlkjmLkxHdzut`^YN}~_JQ6v45dR@xwf3|5~`j" [S a2z,.func (.func 240) [] [],S a2B,.func (.func 262) [] [],S a2y,.func (.func 263) [] [],S a2A,.func (.func 264) [] [],S a3b,.func (.func 265) [] [],S a2L,.func (.func 266) [] [],S a2M,.func (.func 267) [] [],S a4I,.func (.func 268) [] [],S a2R,.func (.func 269) [] [],S [98,114]]
def p8:=DN 115 "DZPG>RHaSWK}?wLdY^;t96UhJG"
def p9:=E5 116 "560twYqLE" [S a2z]
def ZK:=E5 117 "4;?kJIATiT0|B]Sg?GWDl@HYMKB56}" [] [.LK 1 false false true]
def aD2:=E5 118 "DeUk64q2<Q[IT"
def aD3:=E5 119 "As`wiRQ:7RXmbXkE<hyP}RwPGf]VghDs" [.int .i32 0,.int .i32 128]
def xh:=NH 120 "yOQSUI7x8MClvfeJTGNyj[IqmT;djBL>CPcRlXRNB"
def xj:=rd4 121 "<Wx|^6]Og}4kYP2pOi}]xDeTfAKO|=;m03jP:L6YvW<oKw~JtXaMrSiQb^OptUr7Nmcv=ByQWpPB=5b?JNrM`|Xo~Fui]tv2WTERd[r?T[ayVAV=rg^9l~LlN6p1mM>~_HDh_7Hj2aDt9<q<E>xIH?SGZOVj`80iRI2^chsngjHvcN^|"
def aD4:=E5 122 "47f@nZPRaifxX{VqLD=1aEvqyiRfu0?4pXS[Syy[=]w;2:M7VpCxeo~}0iY:<gia5D93F2u1Jh{4H^T6rv<]U|e1rkkqrLc^`JCS@UyGK`>nP>zBF" [S a2y,S a3k,S a3l,S [72,84,77,76],S a3P,S a3C,S a3W,S a3v,S a3w,S a3X,S a3q,S a3S,S a3p,S a3j,S a3c,S a3f,S a3Q,S a3x,S a3m,S a3i]
def aD5:=NH 123 "1:^Kja|7?6aybgso9~XJd5lh{dMofYk?O;"
def qC:=DN 124 "q?uWthK@Xk{Qp?0"
def xk:=DN 125 "10CKQ|@D}@:w~M]"
def aD6:=E5 126 "2X=cEDxDx" [] [zT [(0,1),(1,1)]]
def xl:=DN 127 "]GG10DM3_aF"
def xm:=E5 128 "B<bGnij[>?A{"
def aD7:=DN 129 "27SqlpxrVNPvplr1z5FW37OEu8i^loUozcTa:U9:3aZHK<>6`]:N<`JF<tFqwEEpU5}:w1[PHE^D6f`ow}35zqysZk[8n<BGIIOlqc}p7_|f~[|jhZP6gB"
def qD:=DN 130 "VtzzfCKs6eFW3<X:{j2]g^vJ7`ikdfh:9gykv|pRNGNv|" [] [.LK 4 false true false]
def aD8:=DN 131 "1g}K_N{q5z:u3_dU7aCeLJU|}F{`dwISUihKvA{kYC__rT_R`Ja~_khaLs?PNfAvP[AhER~VZ{P2pX9<Ha_]Xqt=}4t@HO^^_GPbq5=8u5LcsgA~:sbGQ}c~ydY" [.int .u8 32] [.LK 0 true true true]
def E6:=DN 132 "36i@iNS@`xdirj^K1yP4?PKdsYZf~B^?cO65@tcfjhsR0viSuNTZ0JW1YM{yvWp7sRk1i;ANE9de7K;qTb|sEo`bh8qc[|ue9G<7qY|Xo_aqrPq1J@sS1lvt7W8BVw3W1lTCsPHSbdF<efxKS9Y|1X<}E4WoUViU?d;2}]VuX61wtgeXy0UHv:xa[DkRF1@GwzeN954zgH8<qiGWNO[7{l~~yO_75ucF:nfYaD0nE{Z<PnraVbCu:GhFVSlXKuV0atT7MmTM]oIh?Wwok>Wo}Xte0kI^Kz=1Oi}?P{7v]Hd13ZG;CHrX24OLoynW~4_yy|zBFMpb7wy0^Al<hPuu1OmZ3=DpeaEjUd25wz8JFE{X5OMvk;k4[7b6gLq?QRjMnI^E6_M^O:G?c9><pk=2q4Q_Hyzc^a8hrn1SJVGAVV3uGc4^d[F[hnEYmTz3>>djNzZx;d=9sczkcPv_ILdo~c>pm" [S a2y,S a2B,S a2D,I 20,S a2x,S [112],S a2L,S a3B,S a2R,S [108,105],S a4e,S a2T,S a2G,S a2E] [.LK 4 false false true,.part 1 none,.part 2 none]
def Gn:=DN 133 "CIoSxflv^Dv[5FmyRi_7`r6CA_2:S6}K?C>[;];~AIoYen8T8qEm10daQ>:cz6J<08@F^[:pvfFe[q{|yq>zWp_VFMBn|`PrFWN_U]NT]^=m<q@^lmp}><WMY4H6{XDjzBjTohbQBg~H2:_M9pCP|7|`xUaUC^1Dm61KD4CMxj5Io?MQU@C:CyX@`86Xzg~axiBBxEg;=DAHnU?JnknOvQvqLt4M[~rIM82p?^z1ecrIm9en|OsjL^Xqb^QuFOeOz}I[|ZTN;v<S~}FC|Vd6q_dnRIU^udHCZ40^:Ml_1?TZ=Z;7Js2TvgoNpmA}I3Qu:@vk=]FJVObgxzSmqFx^vVi7Qaem]nWjt78w_7@wPnozGZ04JUI9u;wce7ZiOzgbs`Po;0z?oeiV" [S a4S,S a2B,I 19,S a2y,S a2x,S a4f,S a2R,S [112],S [108,105],S a4e,S a2L,S [104,49],S [104,50],S [104,51],S [104,52],S [104,53],S [104,54],S a2F,S [97,32,110,111,98,114],S a2M,S [98,114]]
def aD9:=DN 134 "1M@}mlIw`QRe}g~dKXC3}V?2nwS5p9eNTTcc<HHHuz]J38qb?=VMV7"
def xn:=E5 135 "9<;mCf>f;ky]RKV]ueX?LpUrZILonLlXX" [] [.LK 1 false false true]
def aEa:=DN 136 "KTU?y>a1^W>So|:EDX~<uvCi2zgc]yNZjRAdK2zqg@QGNoyO_GpQZ~O^`cQv"
def aEb:=DN 137 "dImG083v{7Jvm:DSNK5UPOLl<5w4uLv0PSu;>2lur`YIoh^pQ{M_CtpagpcPZt64<yoP[2ZU=z7e9{>ARQ2zybeQv2k?=bwnqgzQFj8NhEH}M~c4=PqL:AQw1@7:E16RjgZ_e?7UYlr6O[ZCX2oR@^N>R~35;`4B4nrbqgdia`oKvxmDO12yJVPQehuwB1|qD}:SoM7:1P>G" [] [.geq true [.i,.s,.s]]
def qE:=E5 138 "9muC?oQU4PTWoC"
def aJU(p:Ad):IT:=
 .op (.GH false .sl) [p,.slnil] λa=>.Hs a (.rr [.slnil]) (.op (.Df 3) [] λb=>.HL 3 40 b p λc=>.rr [c])
def ZL:Tq1 cx 139 aJU:=λ_=>Dv
def aEc:=E5 140 "2bdZ;>H;dbA"
def aEd:=E5 141 "5CxD0L"
def aEe:=DN 142 "Xt;~EK>PXhsky=4@YkN>ew3Yla}tSY>_RPMtAj{i~{0yPwsFg60b3qrBb8oLfla=U"
def aEf:=E5 143 "gF0]?7UgOMCvl@vKKg4dyo[XI{GRWj<x>W1phz9642_~[_yOuo`?Q{`b"
def aEg:=E5 144 "99Zp^rcxs=|`T5;7XbmT6Vg>6JcXr0BQk3o5I6^q^b8t2R8c1;1"
def xo:=rd 145 [] "2Rp[5zvyI3"
def xq:=DN 146 "@Oad^6c=<kR4B2AX@hpnL{E~G}T^YITX4D`EuU}|<jAnEQFF^IpNqxBo7rf4hIiDfl6[BhQ1<"
def xr:=E5 147 "V`y8{MfzbcQmxxi|2u]3"
def qF:=DN 148 "`ytb`l?PXop?LOpFyNl1"
def ZM:=DN 151 "2cF<IXhNif=>sTd96|9_YvMje" [] [zN [(0,13)]]
def ZN:=DN 152 "C<a:eBy"
def Tw:=rd4 153 "2IJH|j_=?H~4BMd}JoM;<QnbE_MlMfeGs~qT2a~M]6HQfFWhFi9iV{A5@MEAVF2qi^0{molcb78" [] [.part 0 none]
def qG:=DN 154 "bBZh?Pq@TNbB^8WLS:U{c<pi0Y~]"
def qH:=NH 155 "891s~@Kxyb9l?58<9=jdL{81bh[feOdwk=:1okBVh{DMWhe6_6Zo8oUA@GeKe@MM" [S a29,.func (.func 301) [] [],S a4m,S a3u]
def qI:=DN 156 "1AMLj5zeer@aNc"
def ZO:=DN 157 "38sS>KF@t^Da2Z=x;N`KVS{i>i|<`|3XO" [] [zN []]
def aEh:=DN 158 "1ID4boIg5aE5c=k^@qsn]:zm@z9e6y:Y|^HQBr2N:"
def xt:=λp q r u w=>rd 159 [p,q,r,u,w] "KP0FZLPKQph:nZr3GTvg70zU<Dr^Pxs@>4lp]oWbobAs{m~I<MJ9a=Q9_RDQNPq:cZ5}Q=n5h}<<]MCF3oYxpUYkfVNoB1;" [.tuple [I 0,I 2]] [zN [(0,1),(3,1),(4,1),(5,1),(6,1)],zN [(0,1),(3,1),(12,1)]]
def qJ:=rd4 160 "I9aQwaWOMs7s]N;stMmW:3@yRsL{974mF{jxB]2L[YhTlwkeqOLh_X3T@;f3{>H1>BwrXP<o7[1K:o^p{}F0z3czJ@I"
def aEi:=NH 161 "@_^R;=XxzGe2D`u?ZUlwlSeNU3U~=u[gcns>btdw0l4xujWHdOVLt;etVC`{p5{xa@;=~tMT]kj:bL2=PxA>QQmM[J1M0DbVPzu^1S8F9Z{^nSaL;`v" [S a3g,S a29,S a4r,S a4m,S a3u]
def aEj:=DN 162 "451][x6[^0oaD^[SgmT:p_Pj"
def ZP:=rd4 163 "1r|L2qnPC]8SHCIFmmMMsMD8qt95e@4;R=tOSYs=Wa"
def qK:=DN 164 "740tNp3`I3|xMt:WyCbgLnad7RNbz1QumQzk1MJej[XDhPM2s^h[dQ6:<CR;wf9OcpPgHKdqomLx0c<qyeAbP<UQw_w=M4|Bu@kT6<7d~KJ~q34~lBzEhG~>052Axu?RLgxFIV<Ws58sz]|g^Xt2;lBjNjI[@1IlV]C:F=y<[``CjHN^LR3E?=Q>;{^FTf=IePo1VmV"
def ZQ:=DN 165 "HS;rww>]R5F1TSm`E<bWavh?n6V|rK7~Pt~o~`~M}Q]7gKmfDzl}B22VvI0wytip^1XYYBqgOLVl6m|E>;UOK`msz9<7:CpFHJ:`|~u>j6siuBAXJ<h0Q@2cuVFPd~spTL>reCzXl]n{c|Hi8AendOPG]Xfc]c6DU`{b" [.tuple [I 0,I 0],S a2K,S a3T,S a3R,S a3U,S [116,114]] [.part 0 none,zI [(1,1),(2,1)]]
def qL:=DN 166 "30ooAr`Gwb?:3g[GttF"
def qM:=DN 167 "@K5T`o:PXsALn_lv=^kfvtlCe7I[x}cNhCp|XwsrNnR4l"
end Go.Am
namespace Go.Am
open Go
def qN:=DN 168 "Xqe@izn8_FK5;~|TWMu>D|" [.int .u32 127] [.conv .u32]
def qO:=NH 169 "2XaWRtX3]>TUUt@22{5`Dp~UEQ6V<Pg~HAuoYv}M~C}UoAzO;rstAg[?vz"
def qP:=NH 170 "4qgs4?aFto4FgeR;9" [] [zN [(0,1),(7,1)]]
def qQ:=NH 171 "4qgs4?aFto4FgdI|U" [] [zN [(0,1),(7,1)]]
def qR:=NH 172 "hCP9Dz70aT6"
def qS:=DN 173 "Mg{eX9PBy8hy2" [.func (.func 194) [] []]
def qT:=DN 174 "3SJNqoL9swk"
def V9:=E5 175 "2[fDuJAlVL;kVx" [] [.GH false .sl]
def qU:=E5 176 "]SlbZ4yYW]iw" [] [zT [(0,1),(1,1),(8,1)]]
def qV:=E5 177 "2bdZ;>H;dbA"
def qW:=DN 178 "2`=RA]<2rJeL~Kplcfd3;_6pd;r@nS1M7ct" [] [zI []]
def ZR:=DN 179 "2]bkSa^b_b>~:H;AUcRyEyZ" [.func (.func 194) [] []]
def aNy(p q:Ad):IT:=
 .ie [p,I 3] λa=>.Hs a (.se [q,S a29] λb=>.Hs b (.rr [tt]) (.BG 320 [p,q] λc=>.rr [c])) (.ie [p,I 2] λd=>.Hs d (.se [q,S a4W] λe=>.Hs e (.rr [tt]) (.se [q,S a3F] λf=>.Hs f (.rr [tt]) (.se [q,S a2S] λh=>.rr [h]))) (.ie [p,I 1] λj=>.Hs j (swv q (.rr [tt]) (.rr [ff]) PT) (.rr [ff])))
def qX:Tq2 cx 180 aNy:=λ_ _=>Dv
def qY:=E5 181 "YZyI:?pg~RniIhLq~dqKO" [] [zI []]
def qZ:=DN 182 "6jV0e5gqV:B4lKexsxnrXo5_{QR|gaDh}tV=|xyn}G[nw`kODPDfC_TB5?N;0Ct]t[M"
def pc(p q:Ad):IT:=
 .fa p 3 λ_ a=>.ca 321 [a,q] λb=>.il [b,I 0] λc=>.Hs c (.ca 66 [p,q] λ_=>.rr [ff]) (.fa p 3 λ_ d=>.fl d 0 λ_ e=>.ea 3 [e,b] λf=>.load (some 3) f λh=>.op (.Fc [I 0,S [],.slnil,I 0,I 0,I 0,I 0,S [],ff,I 0,I 0,S [],ff,I 0] [(0,3),(3,1),(4,1)]) [h,b,b] λj=>.alloc 14 j λk=>.fa k 0 λ_ m=>.fl m 0 λ_ n=>.fa p 2 λ_ o=>.ca 174 [o,n] λs=>.il [s,I 0] λu=>.Hs u (.ca 322 [k,p,b] λ_=>.rr [ff]) (.ie [s,I 0] λw=>.Hs w (.rr [ff]) (.fa p 2 λ_ y=>.ca 323 [y,I 1,n] λz=>.nt [z] λa0=>.Hs a0 (.rr [ff]) (.fa p 2 λ_ a1=>.ca 324 [a1,n] λa2=>.il [a2,I 0] λa5=>.Hs a5 (.fa p 2 λ_ a7=>.ca 179 [a7,n] λ_=>.ca 322 [k,p,b] λ_=>.rr [ff]) (.fa p 2 λ_ a8=>.ib [s,I 1] λb0=>.fa p 2 λ_ b1=>.ca 178 [a8,b0] λb2=>.ca 178 [b1,a2] λb3=>.fa k 5 λ_ b4=>.store 4 b4 b2 (.fa k 9 λ_ b5=>.store 4 b5 b3 (.fa k 9 λ_ b6=>.fl b6 0 λ_ b7=>.fa k 13 λ_ b8=>.store 1 b8 b7 (.ca 325 [p,k,s,a2] λ_=>.fa k 5 λ_ b9=>.fl b9 0 λ_ c0=>.ca 165 [p,c0] λc1=>.op (.ext 0) [c1] λc2=>.op (.ext 1) [c1] λc3=>.RM k 13 λ_ _ c4=>.ca 153 [p,c4,c2,c3] λ_=>.fa k 0 λ_ c5=>.load (some 3) c5 λc6=>.fa k 9 λ_ c7=>.fl c7 0 λc8 c9=>.ca 176 [c6] λd0=>.ld c8 λd1=>.same c9 d1 (.ca 77 [p,d0,I 1,c9] λd2=>.cells 4 d2 λd3=>.RM p 0 λ_ _ d4=>.fa k 9 λ_ d5=>.fl d5 0 λ_ d6=>.ca 297 [d4,d6] λd7=>.ln [d7] λd8=>.loop 25 [I 0] (λd9=>.il [g d9 0,d8] λe0=>.Hs e0 (.ea 1 [d7,g d9 0] λe1=>.ld e1 λe2=>.ca 153 [p,e2,g d3 0,I 0] λ_=>.ia [g d9 0,I 1] λe3=>.rn [e3]) (.rx 0 [g d9 0])) (lx 0 (λe4=>.fa k 9 λ_ e5=>.fl e5 0 λ_ e6=>.ca 153 [p,g d3 0,e6,I 0] λ_=>.RM k 3 λ_ _ e7=>.ca 322 [k,p,e7] λ_=>.fa p 3 λ_ e8=>.fa k 0 λ_ e9=>.fl e9 1 λ_ f0=>.fa k 0 λ_ f1=>.fl f1 2 λ_ f2=>.op (.Fc [I 0,S [],.slnil] [(0,1),(1,1),(2,1)]) [g d3 0,f0,f2] λf3=>.RM k 4 λ_ _ f4=>.ca 326 [e8,f3,f4] λ_=>.fa p 2 λ_ f5=>.ca 238 [f5,n] λ_=>.fa p 2 λ_ f6=>.fa p 2 λ_ f7=>.fa k 9 λ_ f8=>.fl f8 0 λ_ f9=>.ca 174 [f7,f9] λh0=>.ia [h0,I 1] λh1=>.ca 327 [f6,a4 d3,h1] λ_=>.rr [tt]) λe4=>.rr [ff]))))))))))
def O3:Tq2 cx 183 pc:=λ_ _=>Dv
def rA:=NH 184 "B=UM:Di6dqDk[=csI|fZ||tBo5S=p[rd^{=ZnRTL]}Ep[4cEd:v1v<|s?1N66hdpAUV1TiTeEQ0YQk:KsU_9VaQu<u0Vjs6zu0f0sYG?iQbu}n:xiqbo7T0::yvW|k@ZoZ0[7g9=[NMKe~Ph`XTac}NeC;BeHiEoxA]o:mI8jQFE~B=Y}|33jGMJkCHm@<dCpk[UNF>_P8WUzC4C4KN8W@m~BM20?Uc5]AbEXhlP`otDX7^}V{|~E8foUa" [S a25,S [116,100],S [116,104],.tuple [I 15,tt],S a2z,.tuple [I 7,tt],S a2I,.tuple [I 4,tt],S a2y,.tuple [I 3,tt],.tuple [I 6,tt]]
def ZS:=DN 185 "BMnFlW"
def rB:=DN 186 "10Be_x3RhW@tA?0"
def rC:=NH 187 "1epvSq~H8|Ef[L0j{f{IgXzcs}}aMhF4y|d7ue{ALi1f8id8}wwz="
def rD:=DN 188 "3SJR6fI=O3P"
def rE:=E5 189 "66lfsk~" [.func (.func 332) [] [],.func (.func 194) [] []]
def rF:=NH 190 "J>L:6wEHiohLGs[AQU<F[EZ:4N" [] [.LK 3 false false true,.LK 3 false true false]
def rG:=E5 191 "3<VYPNFaRvTF="
def rH:=E5 192 "M]M?zJf_V4]V]1?uSsEMd[ve}^P8ct5kl:mIIkim4bwUwL`QJ"
def rI:=NH 193 "1C?8YfAHLDmQGIPT=0sN1<rcJ~~?P[Yn<C4nd8enLh27cRQl6hSZ1eqj~E"
def rJ:=E5 194 "5PB"
def rK:=DN 195 "A0BU2BCD"
def rL:=DN 196 "1AMLj5zeer@aNc"
def aNz(p q:Ad):IT:=
 .RQ λa=>.op (.Fc [I 0,S [],S []] [(0,1),(1,1)]) [I 4,S a4G] λb=>.Me a (S a3L) b (.op (.Fc [I 0,S [],S []] [(0,1),(1,1)]) [I 4,S a4D] λc=>.Me a (S a3G) c (.op (.Fc [I 0,S [],S []] [(0,1),(1,1)]) [I 4,S a44] λd=>.Me a (S a33) d (.op (.Fc [I 0,S [],S []] [(0,1),(1,1)]) [I 4,S a45] λe=>.Me a (S a34) e (.op (.Fc [I 0,S [],S []] [(0,1),(1,1)]) [I 4,S a47] λf=>.Me a (S a35) f (.op (.Fc [I 0,S [],S []] [(0,1),(1,1)]) [I 4,S a2S] λh=>.Me a (S a3V) h (.op (.Fc [I 0,S [],S []] [(0,1),(1,1)]) [I 4,S a3Y] λj=>.Me a (S a36) j (.op (.Fc [I 0,S [],S []] [(0,1),(1,1)]) [I 5,S [108,97,110,103]] λk=>.Me a (S a4b) k (.op (.Fc [I 0,S [],S []] [(0,1),(1,1)]) [I 5,S a43] λm=>.Me a (S a3Z) m (.op (.Fc [I 0,S [],S []] [(0,1),(1,1)]) [I 6,S a30] λn=>.Me a (S a30) n (.op (.Fc [I 0,S [],S []] [(0,1),(1,1)]) [I 6,S a4n] λo=>.Me a (S a3z) o (.ln [q] λs=>.loop 4 [.slnil,I 0] (λu=>.il [g u 1,s] λw=>.Hs w (.ea 3 [q,g u 1] λy=>.load (some 3) y λz=>.cells 3 z λa0=>.op (.Fc [I 0,S [],S []] [(1,1),(2,1)]) [g a0 1,g a0 2] λa1=>.cells 3 a1 λa2=>.ie [p,I 2] λa5=>.Qp 100036 (.Hs a5 (.BG 334 [g a0 1] λa7=>.cells 1 a7 λa8=>.rn [.agg [g a2 0,g a8 0,g a2 2]]) (.Qp 200009 (.ie [p,I 3] λb0=>.Hs b0 (.se [g a0 1,S a38] λb1=>.rn [b1]) (.rn [ff])) (λx b2=>match x with| .normal=>.Qp 100043 (.Hs (g b2 0) (.cells 1 (S a4d) λb3=>.rn [.agg [g a2 0,g b3 0,g a2 2]]) (.rn [a3 a2])) (λx b4=>.cells 3 (g b4 0) λb5=>.ret x [a3 b5])| .exit i=>.ret (.exit i) [a3 a2]| .ret=>.rr [a3 a2]))) (λx b6=>.cells 3 (g b6 0) λb7=>match x with| .normal=>.N7 (.agg [I 0,S [],S []]) true a (g b7 1) λb8=>.op (.ext 0) [b8] λb9=>.op (.ext 1) [b8] λc0=>.cells 3 b9 λc1=>.Qp 200012 (.Hs c0 (.ie [p,I 2] λc2=>.Hs c2 (.rn [tt]) (.ie [p,I 3] λc3=>.rn [c3])) (.rn [ff])) (λx c4=>match x with| .normal=>.Qp 100067 (.Hs (g c4 0) (.cells 1 (g c1 0) λc5=>.cells 1 (g c1 1) λc6=>.rn [.agg [g c5 0,g c6 0,g b7 2]]) (.rn [a3 b7])) (λx c7=>.cells 3 (g c7 0) λc8=>match x with| .normal=>.op (.Df 3) [a3 c8] λc9=>.op (.append 3 40) [g u 0,c9] λd0=>.ia [g u 1,I 1] λd1=>.rn [d0,d1]| .exit i=>if i=1 then .ia [g u 1,I 1] λd2=>.rn [g u 0,d2] else .ret (.exit i) [g u 0,g u 1]| .ret=>.rr [g u 0,g u 1])| .exit i=>if i=1 then .ia [g u 1,I 1] λd3=>.rn [g u 0,d3] else .ret (.exit i) [g u 0,g u 1]| .ret=>.rr [g u 0,g u 1])| .exit i=>if i=2 then .N7 (.agg [I 0,S [],S []]) true a (g b7 1) λd4=>.op (.ext 0) [d4] λd5=>.op (.ext 1) [d4] λd6=>.cells 3 d5 λd7=>.Qp 200012 (.Hs d6 (.ie [p,I 2] λd8=>.Hs d8 (.rn [tt]) (.ie [p,I 3] λd9=>.rn [d9])) (.rn [ff])) (λx e0=>match x with| .normal=>.Qp 100067 (.Hs (g e0 0) (.cells 1 (g d7 0) λe1=>.cells 1 (g d7 1) λe2=>.rn [.agg [g e1 0,g e2 0,g b7 2]]) (.rn [a3 b7])) (λx e3=>.cells 3 (g e3 0) λe4=>match x with| .normal=>.op (.Df 3) [a3 e4] λe5=>.op (.append 3 40) [g u 0,e5] λe6=>.ia [g u 1,I 1] λe7=>.rn [e6,e7]| .exit i=>if i=1 then .ia [g u 1,I 1] λe8=>.rn [g u 0,e8] else .ret (.exit i) [g u 0,g u 1]| .ret=>.rr [g u 0,g u 1])| .exit i=>if i=1 then .ia [g u 1,I 1] λe9=>.rn [g u 0,e9] else .ret (.exit i) [g u 0,g u 1]| .ret=>.rr [g u 0,g u 1]) else if i=1 then .ia [g u 1,I 1] λf0=>.rn [g u 0,f0] else .ret (.exit i) [g u 0,g u 1]| .ret=>.rr [g u 0,g u 1])) (.rx 0 [g u 0,g u 1])) (lx 0 (λf1=>.rr [g f1 0]) λf1=>.rr [.slnil]))))))))))))
def rM:Tq2 cx 197 aNz:=λ_ _=>Dv
def aNA(p:Ad):IT:=
 .BG 335 [p,S a2v] λa=>.rr [a]
def rN:Tq1 cx 198 aNA:=λ_=>Dv
def ZT:=λp q r u w=>rd 199 [p,q,r,u,w] "3NWH9H<1jg80_frq05^7LjkG^dQnGQDo4KBm9{}tgDE:l508ONsz_@Q}3x:G1Bj65TjPJ7_UYIWC|<qCkkxz_lx`WXUQ}B^" [.tuple [I 0,I 2]] [zN [(0,1),(3,1),(4,1),(5,1),(6,1)],zN [(0,1),(12,1),(3,1)]]
def ZU:=DN 200 "Y=>78;lUb|@e3J]yOj1k^aEy~=:;xKIhCdS"
def aEk:=E5 201 "4QF>Z:_mh~9"
def aEl:=DN 202 "32_Ut<xs[?h{8Ia{Tp3uB1d4_Fts[YlrG@oiOSejUW^Y@g7Ef>KK^JUa_cU~flwn|YlmPAvEL4eGwgm]`J@M5]6gf`B=SpjM}2<WTHrBo=J;Zn~|z@]2l]Znil]_f<yxA" [S a3d,S a2z] [.part 0 none]
def aEm:=DN 203 "?Pq=8nU]kB03otb:WB"
def aEn:=E5 204 "=BTu8qK:Lb6=zAI{iGC]gCCzc8Lm94CX9YjmW" [.int .i32 0,.int .i32 55295,.int .i32 57344,.int .i32 1114111]
def aEo:=E5 205 "26Pd0t9ev;>aL``mXP[:IXPMW}=BMBep{w~1Z?A7V|X>f`1M6nxAjpA[|uuy?uE7sn_QhN>UFUoI07EieFdBIliS2700YXxS}w`LgN_Q^5yIm]j?RK{nURFcSRqBCcE8>yK>3]`?U[@TLZP>dMj5FH5UBa}g@5E" [I 128,I 2048,I 64,I 192,I 65536,I 4096,I 224,I 262144,I 240] [.conv .i64,.int .quo,.int .rem]
def xw:=DN 206 "8A322pWUnZ0;wWmWKJ]b"
def aEp:=DN 207 "@K5T`o:PXsALn_lv=^kfvtlCnEZHX3edqV~n|aTn[MPkl"
def aEq:=DN 208 "3o}}y6q65;~@Ubzj;J4"
def aEr:=NH 209 "2lDxO]OkLv5u5:|qpSY>S4s_lH;3~cm1c^gJTphzi9F~znRAr>p::n<jxlV@O"
def aEs:=NH 210 ";]rbvy=wn>{UXYXD`CasW^gW]mwOkf:ywS=HY:P7Jq9JV1XW{@Ct]aKE5e{lN_>Gj~i;H9pONwRtV{>gUw;NE0oA3F`@]g`S^6IseSc;vvMGxtQvs8jWE<G[fQK4zct"
def aEt:=DN 211 "4=Nr_46hqxA>=ROju"
def aEu:=DN 212 "3K{|KH~9DbeC1s`XotmzwA_4t6GmP@0azKMzNfm[RshLA3y[=1oUq"
def xy:=DN 213 "tp8Dc~leLLlQt[mkWpt;8M"
def aEv:=DN 214 "qas_Zbxg}M?U|akBoDZ?s=y9quJ@_={[;^]R14l~KW^" [S a2u,S a3M,S a29,S a3g]
def xz:=E5 215 "1j{ic8hZ}"
def aEw:=DN 216 "F26Wh4olKNNEf`]u_tJ3F?4^[8efAD4LbFR3qp_Lb]?i1;skU[LpDIgglzunr"
def aEx:=E5 217 "=to9Sn;Tx"
def Tx:=DN 218 "6O[z]R[7fz{ki2br_WyXJI94[^=lW=X}T~:;f|6c:PO=MmG0;>5]yRjGej?Es>ggtfR5winC30_6U}jIVVC?sn?eFvZ]WPqKr^;0VfRp[8dr^mCMS^NdFUPJ5TZ}|Pjpm:KzY|5`izY|usv]EB||3d5r2sZREA]ObCRH>kl=xjc5sBXe14o[yLuHgqquhCiXUdr}QXDKUrwAC:V51cSm}3>`yjNpH[~3rGwnW=K8o[zUO27hSgxEn6m}X`UkvKsX]Zp;um}=Z4VG5BniTx|fQ<UEQ5uNj>wuQd2jxIdoR:Bd2f:9GEW@]J{3VOmM]bK7G5hd9j9c" [] [zT [(0,1),(1,1),(8,1)],zA [(0,1),(1,1),(2,1)]]
def x_:=rd4 219 "1h^rWUt<La?;M~CT>KwP?NB0kp7zOUi[2_]^oBHq8Y0E<}QS<uCIrZkADc4^D[Mi4=W[Czz@Vc|~UDdnV_^zplOdjk7c2ERufm_Aq9=I@Q3y@I8m~0svtbX;o}tAqPKW1<1myPWNoZKov?h1cCE?xg{jUGrBFLb}{uBnYC=7vRjM>aO0Fg{[WABz};DM6?2U?QA4sk9u=df=apUtjZN" [S a25,S [116,100],.tuple [I 15,tt],S [116,104],S [116,114],.tuple [I 14,tt],S a3T,.tuple [I 13,tt],S a3U,S a3R,S a3s,.tuple [I 11,tt],S a3y,.tuple [I 12,tt],S a2K,.tuple [I 9,tt],S a2z,.tuple [I 7,tt],S a2I,.tuple [I 4,tt],S a2B,S a2D,.tuple [I 20,tt],S a2y,.tuple [I 3,tt],.tuple [I 6,tt]]
def aEy:=NH 220 "1sQ~OLJ}B_ww1r9w<B9rmq`zd?HJnd9u73OCAITdZ0R?ZT4}1xajV^M`"
def aEz:=E5 221 "S2M@P|MNuJg=y`DWu"
def aEA:=E5 222 "23C|oqe8qKdjef{}KZ7Gvp}cE;oZj>9BNcN]y[dL>M{Y1NVN0RN3"
def aEB:=DN 223 "8I_Rdlbg1YWn0_lhm^Y[lCy?}aMIR13}SmPHNZiO:9ttGWyO~fG{dVt" [] [.LK 4 false false true]
def aEC:=DN 224 "1NDc93wTV9~0CSOY_>_;UDT{wpM@bWV?xNdB{|4`@5bnwG?@;LUK3xNsPq>aA|n4_TmEh9oXD6<9Q5:]X>m183J1x}X^Z5<ZC{~9LO=ryUJN<nHUVKMJ@;g<YLwTM4?85bSH?ZH_9M]Rg|gz~<j}PAe3bGFhWbP=<x;k77VL4piVcKb^xFHDOm1KvX298qh8iBKgjsQayh@s1osA7VrwlFVZYk13J}~HYvSi[oSPWVbonesb^Wg7_JyRX=amqx:P=yv0Xb`Sno`=J@faWtIaH]q[|]cKK3wENvLey^IL]?fewxs:nV[EOTe1}hPmZ~T8lwtyaKvrzP@EbLlUA0dP1f1Nro=4VNsEyY3twwF^=p>SKF~I]pMU8w16Vqeyez~U0yjVGZ2UYaj}X@U04XzNPRX=OvPsKab7Y}51JPAH50_v^4CDAQ9xNRKjmf<etckAvH};I^|9HC^d{R16qZ_D~yp`edyA:z<uS9g2Ft^CtlJ{AJzE1wh|i|" [S a38,S a4d,S a2t,S a2H,S a4b,S a3Z,S a30,S a3z,S a4n] [.Fc [I 0,S [],S []] [(1,1),(2,1)],.LK 0 true true false]
def aNB(p:Ad):IT:=
 .BG 350 [S a2v,p] λa=>.rr [a]
def aED:Tq1 cx 225 aNB:=λ_=>Dv
def aEE:=NH 226 "19=>U:RbkI_LMTsWl;04mNWoePMY0cnl9>L`N?x"
def ZV:=E5 227 "PrFXR4dl=4iRgsAfz7MzQi6PNx}s~" [.int .i32 9,.int .i32 10,.int .i32 12,.int .i32 13,.int .i32 32]
def rO:=DN 228 "k{7ii=tZSEpr2>ZUXLgnUxWX@_:?"
def ZW:=NH 229 "yOQSUI7x8MClvfeJTGNyj[Ij1O{sNYXcka]n@jnxq"
def rP:=DN 230 "F<TqhbDcY0L38gJ^D7VcP>adI=upHfBY?5B_K97zbII6kr?;|6wqn~"
def ZX:=DN 232 "XcC0NZbTQq7^GKeHNVEP5qkZJrkG4yaPCSPvDW}NSP}[ByEvGWY29vRdNCo{g~`;"
def rQ:=DN 234 "VBMHU1L[}K"
def rR:=DN 235 "WBt`Wr3th{i1i>[kU}@]Y|Cr>T|5" [] [.LK 0 true false true]
def rS:=DN 236 "BMnFrS"
def ZY:=DN 237 "1H2iEmn"
def ZZ:=DN 238 "1Xh>H]@~ivbY4dVsT9I;n<t`"
def rT:=NH 239 "FKMm<=?Q4p`~`Y|Zx^~UpcV[2}}54FS6k1cnFMd"
def rU:=E5 240 "<0r{XOj^2<"
def rV:=E5 241 "<W<I`DEq"
def rW:=E5 242 "6kmg?dU9?|a0xj792"
def Wa:=E5 243 "3P?D4qkYP}4=a|h|l967iuWKGZ1]AU>h>Xo__eGJ{e`7KC0vlaAM5uqYO[7E|D^?BD"
def rX:=E5 244 "2mDKcNLp`=A=PIdfbG"
def rY:=E5 245 "6kmg?oLvo`vF?x>Qw"
def rZ:=E5 246 "4:?QJC}|8o;pC1jte1}?QUhvUa8Dd{"
def M0:=E5 247 "6Ppls^oek?HM@VE1oTzReCG=hRTTk{c}>=9dt|[kQAo[GDcdb<Zgrg1LM:`U|y`R~8zzv~to3sP;drauJlwx]WqQrNAxv<=OK9pzA;?Us2lx00p`kettU?QgfRKFBc=;1?4hCjDK0>NuTdxTv3p]Rsz5>U`zjG2u0<SN5=1qRvv=@aFak@EzekPb?jh=kSIJCt2lXgKtLV8vCayD_Mj:7BJva5Jj4S6BQ0ee0a:{@fBLVq" [S [104,114],S a4J,S a4s,S a4K,S a27,S a2W,S a3N]
def sB:=E5 248 "@"
def QR:=E5 249 "5jEeCogO:E{nsM_tN=lf[m]L2D>A~cwsTGJ;]~VoehwRD[k1IvYIsBpGGTo1WUVIygWO?p2l;VfMv<4KbAfjhKmN=V7Qr}>KTv1Ef3:Y]r4T|z21fbp@:kd=sPt~dq5<@5" [S a2T,S a2U,S a3E,S a3h]
def Tz:=E5 250 "4>vY9iSU:2_WbX`|vqt;@Ye3GekIe0>7lt`jTN2BTTp4|f_EIc6JfgTPXGcFv|v^h`}@dNwlehoX52giP:j;?2c[M15~V7QwV`C|" [S a3t,S [114,112],S a4a,S [114,116]]
def TA:=E5 251 "FXb?OU;K05j3IbHTT1[hehYm;7O~BKEYG}VziX~4QZ;z?jqakQp86FToMc<y?B|:M:J]xkL~b|" [S a4l]
def sC:=E5 252 "LJ7?G^qr6[^@DEfd5g0tJJI7>jZi<y~o1IiW9T[CoR<7>T;]x`xnqxu5m46>5VJmrDVp}by?~=;S4OFcANA]ZXPNUD3^t~|jIMsBYto[mOnSNhCHquEK=ratxnqrRRP|PHZL3n20HLUGaX_y8xW2w_bMIe9OVm`E>Yc:hZpHZpyhx6bNC^88KUUIR^cyEv:~8fxE00w8846dAu~vxp7O@c>VjxHq" [S [108,105],S a4e,S a4o]
def Z0:=E5 253 "1ggBWnbuBmPgsQNMJCb`nGt50InjLeT5X8<rq=:QED0`IVxHEzR<" [S a3a]
def QS:=E5 254 "Qd6Vu~}or2BrweUQ{M|3E7VO3XVAN5FeZ1R6Jys:dYc}8`[3_QeoMi4}NuJOdYRnQFq0|g5k8f<|G]DOO<~7~jXTCEbpl3EuV]bg" [S a2y] [.part 0 none]
def Wb:=E5 255 "g}IlyC6nno|>tjp[u;@i~mz2:jIr<5^ZVF48ifH[S[r[bBD7_{YtR@Q2;Qq:`agdzfDe;z9o0z?W56g5" [I 20]
def TB:=E5 256 "g}FEx]iZ{5Iwa0IFTR>U~EiLL;@Q1~8b>S<03ri[Y~0i0@AghpcUs021z?XRkHtG;kO=S>wXt1|`aLqu"
def Z3:=E5 257 "1;YWajw2:Ke0IZ9{|qITZvog8@mMZG@QTDW}@I4`w;FCjcLbpbFzDUoe:Y~C;" [S a2G]
def Z4:=E5 258 "1Dmax=eQSoEklNn]HCHnb}tf9YyQC3t8{WwDRN]O8xsUb3XXrLtuMqzi0" [S [97]]
def Z5:=E5 259 "T_QCdP|r[pEPUj==Q]0D9<U_C@`q=d:~5W<C1MblXc_86`k" [S a2P]
def Z6:=E5 260 "5aYaOMO{@H5=zkMF^5wAcWpYS~CuIP40@rY7z4=rTAkaO6x`l[tM33a4jLGrFMflf^HkL}_sI_abrAa=V"
def O4:=E5 261 "7bog35]EBM}u|ye<1[D[nrY|PxhnI0;ayjEzrv4w8B@IhC2bf@dk7Yn9UuC<9lF]qtyd?kYAwB4i:x[Pkx]ZgOwum:Z0q4I]<3BdOyy]H5qy|ma" [I 11,I 16]
def Z7:=E5 262 ";aEpg@]UI[DgD7ZfsVo:YHU@M" [S a2B,I 19,S a2y]
def Z8:=E5 263 "XJT_7ea}YjEs653uHxR4~W"
def sD:=E5 264 "TI2omobu?oT]"
def Z9:=E5 265 "m7pRc{000L_urDgz;pcE40AV6y8Zf}s>}z" [S a2L]
def aA:=E5 266 "2X{?edv2fV`{|cA]YHqCFZoI_iFF1"
def O5:=E5 267 "2;AzB]OP_tWOC{RS^P^Q[iJ|0W8TKjRasT7FRopKX0jAPaLD0mfP6>?=pVCDkPRUM6~eD8Is@Z3Z>{?[Vgsu0ZPU<Q[zn|n}Y|u|4`fL>3DquB=PdGkHf0=87[4Suedd?C?<xJ2uFodWWm02=7^uqI0[GgT8q2HvH:LFBtS~8x5U?jX`Tn`<~8J[Qq[x?S7Oq<ji7C" [S [112],S [108,105]]
def TC:=E5 268 "3Pouh=BsYi<wmR0k{[T8Yl_Ee]Uc9XAz~LXmVv[a{r9XB1fliGzmMIfKAou"
def sE:=E5 269 "51Yo@6V<`pf@VYC" [S [98,114]]
def aEF:=E5 270 "3>_}Ws<rQhkU}lhe:Yp_CXpnAwUUGJD|" [.int .u8 9,.int .u8 10,.int .u8 12,.int .u8 13,.int .u8 32]
def L0:=rd4 271 "KcP3HC<oyygxqGmtU~Bf<iYOF1crtI6TUWZZRtx^}X_QL<:V1U5UKx4e=@lM?m>AIHVw2TLM<2_VwBVX3U7YCkxmP3|]Jj>K:|Ov<Sjx<@xXV[~hQ6YKV}XZt<bx:Lfu8glV<@8Gbwh?{cd4~Y<PdFK8^OoJ];GZJ=KkbxU}B7ZU}kAhmd5"
def ya:=DN 272 ":1_53IftiTpQT;ybK_5MU6~_oYmy@q|D?1kG5y>g<1QkiyRv_speMNH@~0o`>PN_M"
def aEG:=DN 273 "VBMDdVm2Mr"
def aEH:=DN 274 "1CQ2VE5FVLmKfkkcl`IB6>wUB^HIsA81A5hW=cG6:xqa>i_G`VLgG6n8Nd"
def aEI:=DN 275 "2}SVI~`htGQep"
def aEJ:=DN 276 "8QkC`xnb;8zeZnxheLK7}lkpD63ATX:qbvP|p~nS~xpO~x7DPlq9o8Bz9h`pgc7Sr}v?]=}oXdt7<FFuWx[;gN5=PN{W6N"
def aEK:=DN 277 "4]HSi779S7{2huTx9mkMkOZ_Sl99ELgObv^{r;u]Ja>zrMHm|lP^4ptvdI"
def aEL:=DN 278 "3gG;jxnn|}:4Pq{S503e@@T^TawBUF=Mf:RbhRg3Ku{oeobDS"
def aEM:=DN 279 "32kbKqJ{Ri3_k{HOja:h}q_Klc|g0sUKWD]w9AEqV5r"
def aEN:=E5 280 "560twV7Xi" [S a2z]
def aEO:=E5 281 "1Kfsa`VU~3EVD" [S a2B]
def aEP:=E5 282 "3skPsd" [S a2L]
def aEQ:=DN 283 "8UCmYw?dS2YA;Mp]=}uVM7s0EV{>pRhU03RzgfN5~W|te}KL`Y7[_34a9i_gZ~~ugpFr{bu}lLV7Ic}0_jD;Grq=;3aGeNMXH0oL0E?S56cm|TWh<]0v?VcR3b0>XdYHofYe_]5" [S a32,S a4H,S [112]]
end Go.Am
