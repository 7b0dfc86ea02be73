/- Lemmas -/
import Derived.Test.YtjbidlnjecppfaaGreatDoorS5
set_option linter.all false
set_option maxHeartbeats 0
set_option maxRecDepth 100000
namespace Go.Am
open Go
def oe:=E5 65 "V_WRFVYsu_hAfQp3X_7raYQTTyvgl0LBHOi_pl4zpyJkZe2bQZqtveyKmuXz38dxkTl8iGGh9fXpesYR8W7HigFPbWxq5aJpZ213fCyehmu28xLTufyC8WS51QOySzSAso6uRKzliBke2V_OcM7I9Z2gMHe5xM8xMDwAgvIZSPWwPHViHlks7xCtxsHknUFu_2ka34sGoM6wJF"
def og:=DN 66 "1D_5hIsuOvdohEUc7mweZwMA1470FcgtkVBKHH7OYFHBlUDcrbB1fMEc_xway_p0B0GTQfEbS8SlFw5WNITPs1E"
def pK:=DN 67 "7nGosLGi2Lqx5LRPSmZ2531sVRMhs3gNo9sARVyjX_4ywZImu3wXiDUuVx1sZUYI4IzeDliFPOu93sBTzii4Wbn3LESstyc9YbiO8YD_EwzT7KDt4vl0J"
def oh:=E5 68 "EBkDKyryCuRhZ7tHCqwVIFH4_KDmH_c2MD4g7ubdCD4pwxHes0TvBJgFW07dzCv1sGGq8pYk_gIS1BXXjP1oSyq9SsaNzpr1ZikgBI8wVw2bJjsq4VfWjrPcMuqhmMWfRryDxlMn9v2c1IPpm0GPe4Nl72P"
def pL:=NH 69 "KhXvH3EWERDVJZ5S1jh4SL8nUvLYPIxOYHAYZRd8zHBvb41bIRbPKuMyow1roAzZINxA9QcSDGuCEJaR93RqVQ4AeRu_diB21fHWHCqu5P4MWHJl8fbgPbXIEmrQFrys2lepxHA" [] [.part 0 none,.part 6 none,.Fc [I 0,S [],S []] [(1,1),(2,1)]]
def eW:=E5 70 "8fzNdUEu9_o6tzgPDsD951ldtyIrRYpEQb6YpbV8aIwpQa4Rf_VRnGE2IhZD52iBUSw9Rtvt_BUX_Csw" [S a2z] [.LK 1 false false true]
def oj:=E5 71 "352hv_O0K2UeIh"
def om:=E5 72 "Vh8VhcSpaLQaHSKAsJ7lDuHy2DwxzL" [] [zA []]
def aJJ:=E5 73 "1IziQbMwu2I4HB" [] [zI [(0,1),(1,1),(2,1),(3,1)]]
def eX:=E5 74 "GhA8ox8H6ol1ivyM41oF18tPiV0p1YtbLv5oALBl3MiQ" [] [zI [],.LK 4 false false true]
def oq:=E5 75 "Rjut01QKhi7IWPc7d07fTh72wWAg7xehEWphyLXRR1Yapj32" [] [.Nr true,.LK 3 false false true]
def ot:=DN 76 "F50FzhlVsZs0a" [.func (.func 194) [] []]
def pM:=rd4 77 "1OgwkYkEE__l0e4S1HkFbL_267ghxuge1xRvxEPGYVf9Xn4xV2gc00ECRgJudzJTSIxk4JKVyDQFQg25mbzLN21HHrXZoYGmIVci1lveEJpGJOyB1edZMdOcRIrA3CTX4XeID1" [.agg [I 0,I 0,S [],ff]] [zI [],zI [(0,1),(1,1),(2,1),(3,1)]]
def aJK:=DN 78 "GUbq4MaS"
def aAG:=NH 79 "7qKOFCRl6z4G6b9DsWcmJty6Gw6CFp095xJcx08ZWcwnxdEp2HXEQWohgQmQfN"
def aJL:=DN 80 "JKoaPk32gRHkjNjPT56HrM8OhEoW2" [] [zA [(0,1),(1,1),(2,1)]]
def pO:=DN 81 "BvHA4l3Ww051vjF9WKpP72ajaW6xdw7gVX0Uy8b_Zj55ENdeh0o3tmHwqYpKZXtEm61fi6cHBg912hq5wTupiSvVjeZ66IQzRNiy75IyYH1m0B9aPj1x0HtKegqEaSQFAjjYO8AOGlhZJOEgWGIho9jFIbnOXUwfrOibzveguhHc6FXM6byFEyAazK4SyCbJJBypxqrn0PslevUc9_HfnebFExBCxuJbWqTv8Saq" [.int .i32 65533] [zN [(0,1),(7,1)]]
def aAH:=NH 82 "UEARJv3gPHXRqYh1WxCIVKzF3CuxH6Jo8zf5tmRiILAKZlpfx0ZbG5w63KkafAQkg6NYsXXHQK_YoR54PPe_qSgGjYGSRLs2zJYDwR_lD6RGuwZxCl3" [] [zN [(0,1),(7,1)]]
def aJM:=NH 83 "7eqtS_30S3TixSGnM1wWPuhek_0X"
def aAI:=E5 84 "Ki71ndPv1ylVg4Pq5niHQWzT88urZ0K1UxshZB6RNa8lM4F" [S [112]]
def aJN:=E5 85 "1QM3BJa3127_J2Q55RiirWOdmY1ibTWriTEZWl_2LopBNkfbSl95WuLaIA2gIKuVgb4oFH6lfa4laxDTSnnlkHyIZduyFQUzJS2z_o8PjBPgPgqxxoXnY14svprFJD99k95F6zoamYb9H" [] [zT [(0,1),(1,1),(8,1)]]
def aJO:=DN 86 "Khp28aqbHHRrrkmBL0I7zE4x38KkRY8YE5LpsSedoX5IECyWHyf10Qd4a7J8uyP41viCwPKtFkvls6OEWV04uzDBXo1"
def aAJ:=DN 87 "IpupYb0_UaGmXas4pf7VfaQfGDEZdrtuvhQ5UbsxGAp34fhSpRmdRUT77j8lcVdwyDBuq3Rbv5IxseifTA5qhx_ZeM07P5lyTH7nQnCgiuQBWvkWODY8Y8zQq6RJ2x5Bm" [] [.part 0 none]
def aJP:=E5 88 "DXW2k_2hoWOxTMa3_Wrx2AVOX4znaHROvXNW2XSAgc7PCLQk34siqUz5CVSTH2SgWqA8OOaEHlj9rlWCKGSq8hkYvhzLqruG7dKALlS4oT8pV5V909YRUfkraaINSxa_GGNw3Oy_YQBe0HS1IKtuv6zH"
def aAK:=NH 89 "fk9e2qy6I7XU9yDbmNJvud98zTPki101gl7oFt3PLykpP6sWC8_gGxvsjiFJka3YCaVdmLzzzFXj0vPt89UsfCbo_cKB2" [] [.Fc [I 0,S [],S []] [(1,1),(2,1)]]
def ou:=E5 90 "BAjV_PvEHSzTt3CQewcEHuHfol5fTPWosZioYNgtM2wUXPchL2Rbe_2lijsKUMBrpzDTpq1hxB5CHHMlug7a04yvX_OmDPRs" [S a2z] [.LK 1 false false true]
def aJQ:=E5 91 "2lKZMrv"
def aJR:=NH 92 "4c8HLxc4jANYqfjYAoFFgho9pTFPIZMfJ2IpQrl_qdp3hTko746wBoWgQSvlEZNeF5LOBeuB4rKBSeToj3BfRi4fHbx4qz0YWX1ZEWxjoqd57sUZok84ZvDnWOsWKwEltaGBW4b0Su3jIl02y33Hr" [] [.LK 3 false false true,.LK 3 false true false]
def aAL:=E5 93 "7UAbcYKUICkbB8oTC5vUIiI0NUbTp5hF1fNgu" [] [zI []]
def aJS:=E5 94 "29mRVNU7SCe9gCOXTrXW9eX1X0RPn" [] [.LK 3 false false true]
def aJT:=DN 95 "4Xq2GWT4LBLq75ULQUIXMpEZYtKOXOMsMQ85vL8WiHMIoT468eBYFKPqS20E4"
def aAM:=rd4 96 "58MuPr9cWXAnOr4ks10WC8VO86k3HuQvx0o22ugBaQlsNqTQTNXWjAUzjGPKfRzzPvXa4UF8b3ZLmWT3FVLG93PpbfIQWTmiCt_rxtfWng7x97BKmF3LmQuJU8VjOS" [S a2z,.agg [I 0,I 0,S [],ff]] [zI [],zI [(0,1),(1,1),(2,1),(3,1)]]
def ov:=DN 97 "QAqrJDUgwfCbETAUKnNk7V7w3k7CUAeC"
def oz:=rd 98 [] "6UjfD_AvGcGsN0MRLDhrUvMsUPtSK1F8WHq1qj_3xOeG9GkL4L9l4ODpadpttOGmqP6rU21AxN" [.func (.func 24) [] [],.func (.func 25) [] [],.func (.func 26) [] [],.func (.func 27) [] [],.func (.func 28) [] [],.func (.func 29) [] [],.func (.func 30) [] [],.func (.func 31) [] [],.func (.func 32) [] []] [] [.ı]
def o_:=E5 99 "1GtS6COFYk_R9ZHe"
def pP:=NH 100 "15fKO8r2xEhuVaXGm7pKwzqV"
def ZI:=DN 101 "2U8anFw"
def pQ:=λp q r u w=>rd 102 [p,q,r,u,w] "IzT6t8pSfz1SXuTUQoP" [] [zN [(0,1),(5,1),(8,1),(9,1)]]
def NS:=rd4 103 "93O6u8HYsfE3O8A6jOkBt_St2cjS9KvKlwfVTLZM2LVyPbeIOHqYuS4XcSiCq0n1P5cIxAqFXUn1_rwE8kdnF2SII0JrCJb7G8w9JknlOtIpfoMH4PtJvA5QwiKOOuF8MPPjASs01kOhE3Fx17f_qzZccNgo9biIPbs2LNu7ZdrN31_sEiKN3WTFc_EWh4YG5hQ71xJBd0BHQ4Lg22yHwliV2o7WaeMAVyvq3fJvKnWn2X1aZpVT8GkCokgl4WwmxF3AEf4e4PGwFVuYn_2sQwbDFHqQUfQycPbbunA9Y92XExdL9038cpPr7YzI8za87RUWGFL2VeZVsbYT1R8StlRgrSBQSS5dOV4kwfYZfJpjgjEFeJVzDDwgSHbv9utYtipH_JcG6REAZhmEWijlAfFyGE2bBpt29ohU7WE" [] [] [.Ĳ]
def pS:=E5 104 "FC643iGIFZvLrsZpnStVXCtVUnj2pA7ME79fJ8VwEIx6hIXv6CajsofHSV526RsZ8CSZdylcXQtvVD26EsYy1kN4iKSCrGTQ4FU7OLNV0PFPhkuzFZ7deVzNHZ4MfaAMTi7eZPsO0sbBvqLdFW9P2AcCoZUSeTsR5UY73BVD7LjZWeX3Bj1bWsdjK5MEhXpIAsiznn2pmmY3jnHutruOwvoPMc8XXc1mp5srczfWaXHj5MHFmPFe3qqW2K0pIRwU2RtUEkKSf_lhWbg9MK3BI0dn" [S a2y,S a3k,S a3l,S [72,84,77,76],S a3m,S a3i,S a3P,S a3C,S a3W,S a3v,S a3w,S a3X,S a3q,S a3S,S a3p,S a3j,S a3c,S a3f,S a3Q,S a3x]
def pT:=DN 105 "2_7n5jy039R2FAKRE"
def pU:=DN 106 "KHO4rUkkEADLL63Z"
def pV:=E5 107 "Dsp3xpNot" [] [zT [(0,1),(1,1)]]
def ZJ:=DN 108 "1XfxHbwIGVWxTv"
def pW:=DN 109 "JxQeDHUGxEj9KbJ"
def Tv:=E5 110 "4whDpE2sMRLcpX" [] [.GH false .sl,.FT 1]
def pX:=NH 111 "1ntZRNbnweZ5k5EgJSlL3_u1e0avcdA5" [S a2I] [zI [(0,1),(1,1),(2,1)]]
def V8:=E5 112 "5LiI6YbiVmc1WP4_erN_50mmDxeuhZBZ6Dke_J3Nyq06K2rRY" [.int .i32 0]
def pY:=rd 113 [] "EpWOozQjvFtG3DrgVTshOwYZkTovnCiRwGvhNDFF8DNhFAkmDAB64t8Kc1VNsdckLYra1zRz9RdBkzIQyprvwr0dZWCf920dIc7M5OrtTqT56eY1_5VNRaiyPEJaTLAfXU10DEUJYqBPTDBwARCDaWxHOBO2tfncNiEGqxgCVFBAYBs7PLyHLaj63WMhxhSdKEkQxHfhi1sr2PUna51inDRT3bwogOAsLhoHFDvFagYHdPkEMZ6wnxTCI" [S a2w,.func (.func 240) [] [],.func (.func 242) [] [],S a2C,.func (.func 243) [] [],S a2L,.func (.func 244) [] [],S a3B,.func (.func 245) [] [],S a2F,.func (.func 246) [] [],S a2M,.func (.func 247) [] [],S a26,S a2E,.func (.func 248) [] [],.func (.func 249) [] [],S a3r,.func (.func 250) [] [],S a4w,.func (.func 251) [] [],S a4c,.func (.func 252) [] [],S a4Y,.func (.func 253) [] [],S a2Y,.func (.func 254) [] [],S a4R,.func (.func 255) [] [],.func (.func 256) [] [],.func (.func 257) [] [],S a2D,S a2R,S a2G,.func (.func 258) [] [],.func (.func 259) [] [],.func (.func 260) [] [],.func (.func 261) [] [],S [97],S a2P,S a2K,S a25] [] [.nD .nilFunc,.Qo]
def pZ:=rd 114 [] "1Zb9djDIsfsCw19VIcdqVL7EihhRIF6QPYLKTM32ZeMug3QnR6hicNjffURlAoqRSqYNacVUuGt9o9K1ivIbRY6bUrMT0DCf" [S a2z,.func (.func 240) [] [],S a2B,.func (.func 262) [] [],S a2y,.func (.func 263) [] [],S a2A,.func (.func 264) [] [],S a3b,.func (.func 265) [] [],S a2L,.func (.func 266) [] [],S a2M,.func (.func 267) [] [],S a4I,.func (.func 268) [] [],S a2R,.func (.func 269) [] [],S [98,114]]
def p8:=DN 115 "14wrT1gFZRz0B0jj4cI27koYj9kh"
def p9:=E5 116 "S1yjuPSq_" [S a2z]
def ZK:=E5 117 "WCpdDL5K_juTa8HKS9XB3dp43OMoCsd" [] [.LK 1 false false true]
def aD2:=E5 118 "4GCEslmt8khyAf"
def aD3:=E5 119 "3NhDjCL3Ba9n15eJI8Y_VQ5mwzW8zk66D6" [.int .i32 0,.int .i32 128]
def xh:=NH 120 "1UaHLWLd8JgPD42lIaQqasX7RNATmO5apVgJuXvAZwHR"
def xj:=rd4 121 "De79Ce_q68DkV5hFRYH7uEhQaY_28WxMple3u5hzhG5fPaSN4OSFvUAJkQssmcbDYBBUBu9PBtoyQqKfoR9ZqwiadboM6Xsa0T1ViDVxba9KxBaY70vidDD2DCo2KNNPSsgJfokl7pTlhn2YGzTZP9m821VWJP3p64mT2TOz9uZ_lIBwj3KM3wKll"
def aD4:=E5 122 "1b0mcGOEa0UkybBxlKt2c2KHfSCZKAr9loxciS6YHpkGfRoPS65XFe1ukKrF6NorzXX1TDwEr_zVe58l2dRliB7xPEeojvuMPg0XtxQZ8X076JnXEzRjw7m" [S a2y,S a3k,S a3l,S [72,84,77,76],S a3P,S a3C,S a3W,S a3v,S a3w,S a3X,S a3q,S a3S,S a3p,S a3j,S a3c,S a3f,S a3Q,S a3x,S a3m,S a3i]
def aD5:=NH 123 "KjZnMGouJeUovZLrOD07u6RvhV4TynFUgDH"
def qC:=DN 124 "KGm6yS6_h2GdTozI"
def xk:=DN 125 "JwpHgkMETaQkqo2"
def aD6:=E5 126 "Dsp3xpNot" [] [zT [(0,1),(1,1)]]
def xl:=DN 127 "5wuYd9LHNgRm"
def xm:=E5 128 "31JPUleUMPRz5"
def aD7:=DN 129 "2OGEjNCfmzTnoITT2IpSdLBN2zUGxG9Mu5RCD_QuGz9nkUuJvbM2ZohUzvpas7s9YFlx23svHM4yLVkEnoBmAE5_zsWVD0QnhuN0tMlP8biSDFsGA2O5_zLXhFz0"
def qD:=DN 130 "1s49SsY1sUkRBwg8XUbyEHOzBc4EDpgPoOZ16DqKIX0SdMxU" [] [.LK 4 false true false]
def aD8:=DN 131 "5dbjGL6CVQMm2aYEMiFSYK48RGoHOBEvl0UmH5jgVw4Vf_ia7u4bgugRH4C8WoJ2TF9HMGpu7HtwCOMdPnH838qEx3xrhltzrE8CVvWqmG1AG5TrpQRYJVliTMpfQ3E6N" [.int .u8 32] [.LK 0 true true true]
def E6:=DN 132 "CAU4ZiYsthc9QZhs2h1aohdvwy8j1AvYtWnqM4gWKCjE4r1rGmtncQ5ZiXoeKiQNTARh6Qq_IVspEA79MEIZ1p2TXoZwvyK9oZu86X9FeRuHN2AISNE2L8v1T68NhRSxiFZcd_DXvAWSMrabmgwBGejYeab_FjewhXq0xCWIfNX4WBeIY1amDfb3jcpPkl7Ma04TqYItUmYiOzlXvWbZh4UqxAafDZeSHXw8d01rHMiIcxqHGPKj71e6ifaGcHdMWQPOj64tuDHzn40M3blFPzUc6H90CkNRRLjuco4ORwZLQO1p4iBsuf5E_UDYUWTJfiqj5rUwGjTa66ptnRvO9vf_Hn47pNhaDkQWDWSYybx4xS4hmGd_nrS33ENzpmcjmhKMlwQxqd9_RLYkqgcX1MfVnFnRciuu9b4v5aWtfG5gmiTnpMfBjycMm_YZBkPEYskYa29xKY90k6INzqAlIo7fHWLEdhrlzYbwBUZm3JzCd4zwX" [S a2y,S a2B,S a2D,I 20,S a2x,S [112],S a2L,S a3B,S a2R,S [108,105],S a4e,S a2T,S a2G,S a2E] [.LK 4 false false true,.part 1 none,.part 2 none]
def Gn:=DN 133 "1NYvbTRPcjBcgxuLRZfdkk2GX2C7xhSJfvXgVa4i7mch_eJzEg_PJd5zqhaSYfDgcniizrH4NUJLm54JWt5Jsf16ZvI44EkysjOgHDf9Px4gzfOBD5zweKvRdOED1VlA1O5tcMTd3WQnpMmB1au1nrGUiMMu5q_nDlcXvIPGO5vnyS3fmCAPzgN50WoRjOrLks22PsN057KthDuCVDUn7d2ulQc1sKjZHikvcFaWF72OyjrIz9t6DPTXGwBc5sWZYPa6FVsdPcgwp04pgC8jDOw9ub28CZ9qrnjLc018PcazQ3bNO6ut34ShHsLpg61o29xKQIrbJ_PtLjZBlov2nAseLyK8wUvOZzJtL8mvRsGfVEwbWlRkJvEudoVr5Mgg0_ToYYLvVr1iW2Ol9Daa95Kam8BhnU9ZN" [S a4S,S a2B,I 19,S a2y,S a2x,S a4f,S a2R,S [112],S [108,105],S a4e,S a2L,S [104,49],S [104,50],S [104,51],S [104,52],S [104,53],S [104,54],S a2F,S [97,32,110,111,98,114],S a2M,S [98,114]]
def aD9:=DN 134 "SY1jUp21M_AGRl0pvicu_KLelAM78AuJv7MDtkK99yrw6y7EHICVuLKs"
def xn:=E5 135 "292x4LsSBcrcxRhj3_IA77AKyp2xnr14j4A" [] [.LK 1 false false true]
def aEa:=DN 136 "Wb8gTBZsre7ZjYD4hl5xWfm80yhJAen20FIugLL5JiEKxC1VgdJtE_L5zjzPKY6"
def aEb:=DN 137 "5_aSq7KEDGDYcbuFJ6RL06kpLNpDqXScLQotut1DMG2U5Fg7vtEI7d61JNa4ig6p6hqVk_KOpxH3JClrYBFOmPJrK7fjA0fC5I2YDL5b8ZrAfhfVH3fxuY2LpN1wFFMxPEc6bIvT3YyTs0WdiIDmt7eS8RucntRlgg7XeXWvQdiYOMIU8gUC5cdRwGyBVodSa4NMREp_4DZyrYBamx3UTcq" [] [.geq true [.i,.s,.s]]
def qE:=E5 138 "2V5xjQwNXF2Rk1d"
def aJU(p:Ad):IT:=
 .op (.GH false .sl) [p,.slnil] λa=>.Hs a (.rr [.slnil]) (.op (.Df 3) [] λb=>.HL 3 40 b p λc=>.rr [c])
def ZL:Tq1 cx 139 aJU:=λ_=>Dv
def aEc:=E5 140 "MJqLGR1xwEe"
def aEd:=E5 141 "FIBUSA"
def aEe:=DN 142 "2F6galIGAMjpV6xwYPNO17PobwTIYgpTMnQXH3YpuNoycYzhmYcgcNU9ul420y0TjYgmg"
def aEf:=E5 143 "RQcDI4ISX85YhreM71dDijiLNlPFdgLdoeMCpN_XLu419QIw6E7tXFTZajP"
def aEg:=E5 144 "1_nQHKLAqlPQ7yrjW2QxwlaciXr7R4u5eUTaK_f4NY5OsFrhO2GJWD"
def xo:=rd 145 [] "GiX0cLC2eI"
def xq:=DN 146 "4xmzwxx7RacDR9dV0leTiS90mAtOeKtiVXqxE79Pq2zSNm_wVn5dK4V6zaEprgWYi0za7f5d1niwi"
def xr:=E5 147 "ZSxpmacfciiwjRtknW7rO"
def qF:=DN 148 "h1950igSIs_pURh9LG3_D"
def ZM:=DN 151 "746zmKXBEZQzEahgsmKj336zQg" [] [zN [(0,13)]]
def ZN:=DN 152 "1616jj60"
def Tw:=rd4 153 "14wfBoAAuaNVsV_wivWSPckgvv9YZQdMuVh4FeWsl1RTtkZakccdoIKMJ7oXUfDoFsyd8eZrLWVKqlN" [] [.part 0 none]
def qG:=DN 154 "3xdRa4viwo6cinJZLqcj5IVemszPTt"
def qH:=NH 155 "Md6FQ7wQoQtFmy7gfBVZ0Clv4uvVHUI1li2zxd3G_41a5i9hmfSJNOPwYS0NMRCBOKE" [S a29,.func (.func 301) [] [],S a4m,S a3u]
def qI:=DN 156 "JdLbITolKA1WY5"
def ZO:=DN 157 "ivBqchw17aEGMFYcAsfZ58M03gU0n2hP81" [] [zN []]
def aEh:=DN 158 "1hnqEBD3Y0y_ogqU4VvHMIVpuNoA4ZD5uB9Uq3LVu_j"
def xt:=λp q r u w=>rd 159 [p,q,r,u,w] "ESofPPrLuP6NVe8mWZfHO57x9i9pgag6YfbL23VjK_svMyRq38b0szf8l6OENb3dFYuAvDtsPXhGcAZRmXa04qGU1D8dINXhmAEh" [.tuple [I 0,I 2]] [zN [(0,1),(3,1),(4,1),(5,1),(6,1)],zN [(0,1),(3,1),(12,1)]]
def qJ:=rd4 160 "5dI7Xm8QSbPiU1MWCuQRpjlBFWIOGBOgfstQ2A1cQHstEoxGinjmdgd3jASQT4kN52aeIhCrMJESADcgevdssOR8qoEerH0M"
def aEi:=NH 161 "9x2SH4qLsnLzvGeXOoj7nbHWRvy627gFDGjXHXM6L2xfvl4aDftDp7pTzF8WAbWNXuLA57LgGWhK5KETTdUkhWv92p24e2vAkKXyLkabErxi2p_Ah5w7Q8cxR" [S a3g,S a29,S a4r,S a4m,S a3u]
def aEj:=DN 162 "8lVkeOdS5ix7uAuHWauEv9MzX"
def ZP:=rd4 163 "2x6AT2sYlLPI9No2B0tOjA9fKrgnfFhu_rDkCzPSLnYC"
def qK:=DN 164 "GaxO3_maRSFZE_3KYcR1g6KIzq34HTNnYPXD9HOjxiic18H9571iPZgXN5SRT9gNAJJMylBqdACD0sSO0C402k_et6x53hQlmHseRsX0nw691adfFsmBqsJZOowUgTR0xSHkYncd2E0cOihfmZfXwxex_TkZGVwSd06AlRhssH_yHIFMbVFQRwGxDG7c_2gTQvMPx3AYdNPwSVU5K"
def ZQ:=DN 165 "23ZOl2zxLw0zIz126KoQnPPbsA1sTtsRryXYwNhYDOh2RTKoD490YvXQe2sa4JgwrIKI23b3U4smXVRgPdfMbZ__XUd5KWs8G95VqHNeiE2BawB_QQe5znsEAEgyLNlLjydYKj3GTUJRjYZrcnV6xTyWU4GbUwF5PaaITHTg0yXGP" [.tuple [I 0,I 0],S a2K,S a3T,S a3R,S a3U,S [116,114]] [.part 0 none,zI [(1,1),(2,1)]]
def qL:=DN 166 "2EetAYVAbLfEs0GcTk4a"
def qM:=DN 167 "me4l_gcqcPYpDfISnN7i0MNmCQs_PxgFyjhoF_wK0_2XN5B"
end Go.Am
namespace Go.Am
open Go
def qN:=DN 168 "uTn_JqMEM22kePsaUkCzS3x" [.int .u32 127] [.conv .u32]
def qO:=NH 169 "1wymbakdW39j91eGhkN1i6hZ5e5iFewwETQ_IPxILkaROCL6Qs0tz7JdJUtHa"
def qP:=NH 170 "2LDuo_9lvoJjp2O4Xc" [] [zN [(0,1),(7,1)]]
def qQ:=NH 171 "2LDuo_9lvoJjp2LyRa" [] [zN [(0,1),(7,1)]]
def qR:=NH 172 "7Qa5CJDE9Z3x"
def qS:=DN 173 "67Mz0PmeKT6qtK" [.func (.func 194) [] []]
def qT:=DN 174 "TE8H2zwZjCA"
def V9:=E5 175 "e7XjYVyaEvLNBt" [] [.GH false .sl]
def qU:=E5 176 "7OqmUxvJ6ckHa" [] [zT [(0,1),(1,1),(8,1)]]
def qV:=E5 177 "MJqLGR1xwEe"
def qW:=DN 178 "vtIBJ6IS3XV7MWH4208B6kSX1lD0QNTetPCy" [] [zI []]
def ZR:=DN 179 "4UQwhiv7R1Oh3Fcmi5MDH_5O" [.func (.func 194) [] []]
def aNy(p q:Ad):IT:=
 .ie [p,I 3] λa=>.Hs a (.se [q,S a29] λb=>.Hs b (.rr [tt]) (.BG 320 [p,q] λc=>.rr [c])) (.ie [p,I 2] λd=>.Hs d (.se [q,S a4W] λe=>.Hs e (.rr [tt]) (.se [q,S a3F] λf=>.Hs f (.rr [tt]) (.se [q,S a2S] λh=>.rr [h]))) (.ie [p,I 1] λj=>.Hs j (swv q (.rr [tt]) (.rr [ff]) PT) (.rr [ff])))
def qX:Tq2 cx 180 aNy:=λ_ _=>Dv
def qY:=E5 181 "kF9qRy30X7D_qwCaUnu9cD" [] [zI []]
def qZ:=DN 182 "Zek0uGaH0twpjW9GZLa6bjU7Q_6n7N_IlE0tjNFF6l7YvOkVAprYXkFksfrPUAip4xwcAz"
def pc(p q:Ad):IT:=
 .fa p 3 λ_ a=>.ca 321 [a,q] λb=>.il [b,I 0] λc=>.Hs c (.ca 66 [p,q] λ_=>.rr [ff]) (.fa p 3 λ_ d=>.fl d 0 λ_ e=>.ea 3 [e,b] λf=>.load (some 3) f λh=>.op (.Fc [I 0,S [],.slnil,I 0,I 0,I 0,I 0,S [],ff,I 0,I 0,S [],ff,I 0] [(0,3),(3,1),(4,1)]) [h,b,b] λj=>.alloc 14 j λk=>.fa k 0 λ_ m=>.fl m 0 λ_ n=>.fa p 2 λ_ o=>.ca 174 [o,n] λs=>.il [s,I 0] λu=>.Hs u (.ca 322 [k,p,b] λ_=>.rr [ff]) (.ie [s,I 0] λw=>.Hs w (.rr [ff]) (.fa p 2 λ_ y=>.ca 323 [y,I 1,n] λz=>.nt [z] λa0=>.Hs a0 (.rr [ff]) (.fa p 2 λ_ a1=>.ca 324 [a1,n] λa2=>.il [a2,I 0] λa5=>.Hs a5 (.fa p 2 λ_ a7=>.ca 179 [a7,n] λ_=>.ca 322 [k,p,b] λ_=>.rr [ff]) (.fa p 2 λ_ a8=>.ib [s,I 1] λb0=>.fa p 2 λ_ b1=>.ca 178 [a8,b0] λb2=>.ca 178 [b1,a2] λb3=>.fa k 5 λ_ b4=>.store 4 b4 b2 (.fa k 9 λ_ b5=>.store 4 b5 b3 (.fa k 9 λ_ b6=>.fl b6 0 λ_ b7=>.fa k 13 λ_ b8=>.store 1 b8 b7 (.ca 325 [p,k,s,a2] λ_=>.fa k 5 λ_ b9=>.fl b9 0 λ_ c0=>.ca 165 [p,c0] λc1=>.op (.ext 0) [c1] λc2=>.op (.ext 1) [c1] λc3=>.RM k 13 λ_ _ c4=>.ca 153 [p,c4,c2,c3] λ_=>.fa k 0 λ_ c5=>.load (some 3) c5 λc6=>.fa k 9 λ_ c7=>.fl c7 0 λc8 c9=>.ca 176 [c6] λd0=>.ld c8 λd1=>.same c9 d1 (.ca 77 [p,d0,I 1,c9] λd2=>.cells 4 d2 λd3=>.RM p 0 λ_ _ d4=>.fa k 9 λ_ d5=>.fl d5 0 λ_ d6=>.ca 297 [d4,d6] λd7=>.ln [d7] λd8=>.loop 25 [I 0] (λd9=>.il [g d9 0,d8] λe0=>.Hs e0 (.ea 1 [d7,g d9 0] λe1=>.ld e1 λe2=>.ca 153 [p,e2,g d3 0,I 0] λ_=>.ia [g d9 0,I 1] λe3=>.rn [e3]) (.rx 0 [g d9 0])) (lx 0 (λe4=>.fa k 9 λ_ e5=>.fl e5 0 λ_ e6=>.ca 153 [p,g d3 0,e6,I 0] λ_=>.RM k 3 λ_ _ e7=>.ca 322 [k,p,e7] λ_=>.fa p 3 λ_ e8=>.fa k 0 λ_ e9=>.fl e9 1 λ_ f0=>.fa k 0 λ_ f1=>.fl f1 2 λ_ f2=>.op (.Fc [I 0,S [],.slnil] [(0,1),(1,1),(2,1)]) [g d3 0,f0,f2] λf3=>.RM k 4 λ_ _ f4=>.ca 326 [e8,f3,f4] λ_=>.fa p 2 λ_ f5=>.ca 238 [f5,n] λ_=>.fa p 2 λ_ f6=>.fa p 2 λ_ f7=>.fa k 9 λ_ f8=>.fl f8 0 λ_ f9=>.ca 174 [f7,f9] λh0=>.ia [h0,I 1] λh1=>.ca 327 [f6,a4 d3,h1] λ_=>.rr [tt]) λe4=>.rr [ff]))))))))))
def O3:Tq2 cx 183 pc:=λ_ _=>Dv
def rA:=NH 184 "9CYyEHmlRHZK7aHMg7p56B_nGl60EIe_ibtwdS69lB3ZrtINCDHpRkg_Fsr1bDoEYLg7SBxKhwSu3JyD2cPZBp8TXvNYVr6JhwtYMRzB43dvwohR8KpUKxpf2vsF_ZiX5RHA8QFJZkVRA0kUn0Ye4FmTtlZ3eKblrwQbIQNy64n0L6tf_VMz2ra1bHOlXQtyRnUD6lq4dcPDCRMfJ4b86T7D0WCg6Hwc1IOZdsU1tzrvMkWqTCB9s9_Dp4fv5Hrwky1gOVR" [S a25,S [116,100],S [116,104],.tuple [I 15,tt],S a2z,.tuple [I 7,tt],S a2I,.tuple [I 4,tt],S a2y,.tuple [I 3,tt],.tuple [I 6,tt]]
def ZS:=DN 185 "qTzjox"
def rB:=DN 186 "JwgV4yWhdatlO_0"
def rC:=NH 187 "S7ve5e9GPPN8cTu5FC0Y7o0fQphrLfCltaIewz77TjYbA0omgvm9rlj"
def rD:=DN 188 "TE8VZSHr5dN"
def rE:=E5 189 "LvB7mib" [.func (.func 332) [] [],.func (.func 194) [] []]
def rF:=NH 190 "1NbBhp_zxSfWu2CgtQWVDxKcYRFr" [] [.LK 3 false false true,.LK 3 false true false]
def rG:=E5 191 "dzrCTwn7Jptl1"
def rH:=E5 192 "3M21g6PnZN_uFhXHebREbjHopecOO03JrUqBiPCUL5aPvmob7JsH"
def rI:=NH 193 "xmroRhL6a1FldGJNTfTweKSRLAm4btDWgUk3U63NYUwfpPAyzf01O6pmRVao"
def rJ:=E5 194 "8Il"
def rK:=DN 195 "1CotBt1tQ"
def rL:=DN 196 "JdLbITolKA1WY5"
def aNz(p q:Ad):IT:=
 .RQ λa=>.op (.Fc [I 0,S [],S []] [(0,1),(1,1)]) [I 4,S a4G] λb=>.Me a (S a3L) b (.op (.Fc [I 0,S [],S []] [(0,1),(1,1)]) [I 4,S a4D] λc=>.Me a (S a3G) c (.op (.Fc [I 0,S [],S []] [(0,1),(1,1)]) [I 4,S a44] λd=>.Me a (S a33) d (.op (.Fc [I 0,S [],S []] [(0,1),(1,1)]) [I 4,S a45] λe=>.Me a (S a34) e (.op (.Fc [I 0,S [],S []] [(0,1),(1,1)]) [I 4,S a47] λf=>.Me a (S a35) f (.op (.Fc [I 0,S [],S []] [(0,1),(1,1)]) [I 4,S a2S] λh=>.Me a (S a3V) h (.op (.Fc [I 0,S [],S []] [(0,1),(1,1)]) [I 4,S a3Y] λj=>.Me a (S a36) j (.op (.Fc [I 0,S [],S []] [(0,1),(1,1)]) [I 5,S [108,97,110,103]] λk=>.Me a (S a4b) k (.op (.Fc [I 0,S [],S []] [(0,1),(1,1)]) [I 5,S a43] λm=>.Me a (S a3Z) m (.op (.Fc [I 0,S [],S []] [(0,1),(1,1)]) [I 6,S a30] λn=>.Me a (S a30) n (.op (.Fc [I 0,S [],S []] [(0,1),(1,1)]) [I 6,S a4n] λo=>.Me a (S a3z) o (.ln [q] λs=>.loop 4 [.slnil,I 0] (λu=>.il [g u 1,s] λw=>.Hs w (.ea 3 [q,g u 1] λy=>.load (some 3) y λz=>.cells 3 z λa0=>.op (.Fc [I 0,S [],S []] [(1,1),(2,1)]) [g a0 1,g a0 2] λa1=>.cells 3 a1 λa2=>.ie [p,I 2] λa5=>.Qp 100036 (.Hs a5 (.BG 334 [g a0 1] λa7=>.cells 1 a7 λa8=>.rn [.agg [g a2 0,g a8 0,g a2 2]]) (.Qp 200009 (.ie [p,I 3] λb0=>.Hs b0 (.se [g a0 1,S a38] λb1=>.rn [b1]) (.rn [ff])) (λx b2=>match x with| .normal=>.Qp 100043 (.Hs (g b2 0) (.cells 1 (S a4d) λb3=>.rn [.agg [g a2 0,g b3 0,g a2 2]]) (.rn [a3 a2])) (λx b4=>.cells 3 (g b4 0) λb5=>.ret x [a3 b5])| .exit i=>.ret (.exit i) [a3 a2]| .ret=>.rr [a3 a2]))) (λx b6=>.cells 3 (g b6 0) λb7=>match x with| .normal=>.N7 (.agg [I 0,S [],S []]) true a (g b7 1) λb8=>.op (.ext 0) [b8] λb9=>.op (.ext 1) [b8] λc0=>.cells 3 b9 λc1=>.Qp 200012 (.Hs c0 (.ie [p,I 2] λc2=>.Hs c2 (.rn [tt]) (.ie [p,I 3] λc3=>.rn [c3])) (.rn [ff])) (λx c4=>match x with| .normal=>.Qp 100067 (.Hs (g c4 0) (.cells 1 (g c1 0) λc5=>.cells 1 (g c1 1) λc6=>.rn [.agg [g c5 0,g c6 0,g b7 2]]) (.rn [a3 b7])) (λx c7=>.cells 3 (g c7 0) λc8=>match x with| .normal=>.op (.Df 3) [a3 c8] λc9=>.op (.append 3 40) [g u 0,c9] λd0=>.ia [g u 1,I 1] λd1=>.rn [d0,d1]| .exit i=>if i=1 then .ia [g u 1,I 1] λd2=>.rn [g u 0,d2] else .ret (.exit i) [g u 0,g u 1]| .ret=>.rr [g u 0,g u 1])| .exit i=>if i=1 then .ia [g u 1,I 1] λd3=>.rn [g u 0,d3] else .ret (.exit i) [g u 0,g u 1]| .ret=>.rr [g u 0,g u 1])| .exit i=>if i=2 then .N7 (.agg [I 0,S [],S []]) true a (g b7 1) λd4=>.op (.ext 0) [d4] λd5=>.op (.ext 1) [d4] λd6=>.cells 3 d5 λd7=>.Qp 200012 (.Hs d6 (.ie [p,I 2] λd8=>.Hs d8 (.rn [tt]) (.ie [p,I 3] λd9=>.rn [d9])) (.rn [ff])) (λx e0=>match x with| .normal=>.Qp 100067 (.Hs (g e0 0) (.cells 1 (g d7 0) λe1=>.cells 1 (g d7 1) λe2=>.rn [.agg [g e1 0,g e2 0,g b7 2]]) (.rn [a3 b7])) (λx e3=>.cells 3 (g e3 0) λe4=>match x with| .normal=>.op (.Df 3) [a3 e4] λe5=>.op (.append 3 40) [g u 0,e5] λe6=>.ia [g u 1,I 1] λe7=>.rn [e6,e7]| .exit i=>if i=1 then .ia [g u 1,I 1] λe8=>.rn [g u 0,e8] else .ret (.exit i) [g u 0,g u 1]| .ret=>.rr [g u 0,g u 1])| .exit i=>if i=1 then .ia [g u 1,I 1] λe9=>.rn [g u 0,e9] else .ret (.exit i) [g u 0,g u 1]| .ret=>.rr [g u 0,g u 1]) else if i=1 then .ia [g u 1,I 1] λf0=>.rn [g u 0,f0] else .ret (.exit i) [g u 0,g u 1]| .ret=>.rr [g u 0,g u 1])) (.rx 0 [g u 0,g u 1])) (lx 0 (λf1=>.rr [g f1 0]) λf1=>.rr [.slnil]))))))))))))
def rM:Tq2 cx 197 aNz:=λ_ _=>Dv
def aNA(p:Ad):IT:=
 .BG 335 [p,S a2v] λa=>.rr [a]
def rN:Tq1 cx 198 aNA:=λ_=>Dv
def ZT:=λp q r u w=>rd 199 [p,q,r,u,w] "1mfzkazs_SxxAOkqC1uzgGwpCMcAj6pdESMkpod3nylAYTgDJCZFmnVEt7Kf8708IB_UD0mjgK3x1Cx3vCFN8XGOU4fIB6gk8ku0" [.tuple [I 0,I 2]] [zN [(0,1),(3,1),(4,1),(5,1),(6,1)],zN [(0,1),(12,1),(3,1)]]
def ZU:=DN 200 "ElosxZvS6cyEcTySEMCu58dBWVnL9p7xTohQ8"
def aEk:=E5 201 "aTHcVLR_Pfu"
def aEl:=DN 202 "_AurfYvlBCwUMpXCzzER_CkquAN0gLg9cTsuoQZtfGtM6RV5_N9IZVJNgaIgcl9iMH2b8qdTo_gW7t2f__EDsT4j6jR8eSP5wz_T5Uz6tu7KkVK90yfT4BYKX_fpjA8Zlrd63yB" [S a3d,S a2z] [.part 0 none]
def aEm:=DN 203 "9F0FY47rocf7RFo8nRi"
def aEn:=E5 204 "7Hl8QX8DoBJ50YBFzgB_tKmsgZrqdTm51jhcv6L" [.int .i32 0,.int .i32 55295,.int .i32 57344,.int .i32 1114111]
def aEo:=E5 205 "3mwXSuWJrIyf3F78rR1W1uAdqdutEmS5GL5WGh7Svo9QmQRQqmj6RNa61LGpqSry9B04Ks7o1js4vpqchZgYqmpNFzCeDVlauavryJAVKZbHPGZ4XII3rg5Vq492lYqlyHh9Pvg9HVwzWdeQSMEJsODmX3rWm_JJYTTvWbO" [I 128,I 2048,I 64,I 192,I 65536,I 4096,I 224,I 262144,I 240] [.conv .i64,.int .quo,.int .rem]
def xw:=DN 206 "7YTAcrDULH1mFmctEqfoG"
def aEp:=DN 207 "me4l_gcqcPYpDfISnN7i0MNmCaKHgaoELubEpHWo4LDEFNk"
def aEq:=DN 208 "2ouitH1chEuVyp887LXp"
def aEr:=NH 209 "43Xa6u0SlR3FpgqmAd8O_9AmYwOwU91ESa1v9fALoXkFmtP7ngOX5TRk8FRASLEa"
def aEs:=NH 210 "1R39x_HxaL2yBliMgCEhB3hWNAsCyQx8ayNxnRDFgykCFGrLJy_eDTAzdlNunTL0v9kq1Ld2mLE8nDeRZo9iJdKr0RRhF1ODJiR0j4A7XBEVD5U5Eq3vi1UHChP060y2ifvJZg"
def aEt:=DN 211 "21AeE0b019uJFDGtpW"
def aEu:=DN 212 "tKEpN9twaLwtFY5EsdC67fDOqeHL79_9QJx3sB7pjqcl423qUMXalaG"
def xy:=DN 213 "1WSRYPeySvchWoiSCZIM4doN"
def aEv:=DN 214 "223Vk7ga7_FhMmuqXL2BQfAh2ZN5JrDJ4i6hGZe5xdKFQI" [S a2u,S a3M,S a29,S a3g]
def xz:=E5 215 "9cIWeXCXD"
def aEw:=DN 216 "WNRxXK_knU7mWdqJfek7R4UUuHAs01KMEnQZHbJjLCoxybDgDhEOfIUmOn6L95rz"
def aEx:=E5 217 "1D_BcYt5l8"
def Tx:=DN 218 "3XdweR_1X6SxjLvOkRms_aXbplFPgtNTGYZih3ZrRDr1uw0riX74cuWX0ibhZxm8wN89zrzXKX7x2f9zSWGpv4kpl9nGR2C3WsXsSVmxJjaKUl311FGnqE8j5dLznItgnabCsxoCC52yLCfRkha0QXDjbozagg47zBz3FwW3xDg7vmQG7qgg2nA7XQmVNXiNC8zZs4KWdRMLsLp4qIH0iJiiOLfEbDYgOIfwWfbDCHXTlxckcKD8mkwfWJ7A2SfjzXWyIiTZASFFiy4BP1MJCaQYmaO6c7RcjOLlT35vdoWbb1dB0Eolvgzsxhd9xOLsazsOZIWtJVsTLTn3W0h7_BoZW" [] [zT [(0,1),(1,1),(8,1)],zA [(0,1),(1,1),(2,1)]]
def x_:=rd4 219 "pJm4Yg6fHPEDNxvcCnEIrMSSxT2BIPJJr1LTTr4iBwks4dBgTPyQm8x_W21l3mMeE3L5mMUOmO3FMjTgT1ZJOxCBqxirBIKQbObmfXwE2mfwRLLoUt3BlabjXwDzZ3qPg1JSedThhixZNMIg4qqC_N4ReJ4trVQx10Vkh9uBK6hL3iyrXmImlR7Fva9PLbNTlLY6ro8mOvI6AlpUV0cyE7UeusoPU" [S a25,S [116,100],.tuple [I 15,tt],S [116,104],S [116,114],.tuple [I 14,tt],S a3T,.tuple [I 13,tt],S a3U,S a3R,S a3s,.tuple [I 11,tt],S a3y,.tuple [I 12,tt],S a2K,.tuple [I 9,tt],S a2z,.tuple [I 7,tt],S a2I,.tuple [I 4,tt],S a2B,S a2D,.tuple [I 20,tt],S a2y,.tuple [I 3,tt],.tuple [I 6,tt]]
def aEy:=NH 220 "vvtMn4d5PLKqAsYcjLdQT3J9mS670FJ5gcaGhwj_fJGZDGrRWK6tZW1EoE"
def aEz:=E5 221 "Gwq_n5GPk05igucWtW"
def aEA:=E5 222 "ReHX9yuE0LTy1jW5G85Zl2p79ZJjHFnyB1ygWZfjRF1lUGY65Yl97L"
def aEB:=DN 223 "3P5MAwul3A3x0F5HxsPMLCD0mTxQDY_PfKPC1f6j_q5cnqGZDyhUfy8Ysp" [] [.LK 4 false false true]
def aEC:=DN 224 "fXAR21_VuGRX_TiXWdmXNdEEmy_on7eoemzi6_VSmYTultQcfK7xRaH52nRSZ0v42luA1d2KgydMORKHFCfuXt8ShfgXwxHUxeKzM8x08TB64vxfstFLLdMOEFLtmJpeY7qQChgeLBLlqaJWBEaRsqIOyahx61WfPKU6Xkwl_Tqd74586IBmTlD3MyNZtRTuA5eTkPwK8tUkPZbxIfWN1ynVOJLRBp14cTXE9oOBRXaczfnT661sVHek2GIHjdioThLI7XRo2nVMcEhtw1QEYh76maZH0dHApUyyzYmBJ_rTU7HydmdSddsSFRn9Ka5U31EHh3GpwAFuzAUtbh9v7LQVBBxzHalgX_3X65_0muCecWpM7WSdSW_27UENbkMDLRKgpDhO4wZW9oEnqDzkcfmAeYOGIwvfNq3dfX5mt85CnBYxZloQfZyY0XKWkLQy6ZJ0DLLIfEYfgJJk1WViFjbLGB_cMurBOpopZQmcUCoFdmkV_ekQosJJyPnf0ez0WE3lSCS5mUkQWxF" [S a38,S a4d,S a2t,S a2H,S a4b,S a3Z,S a30,S a3z,S a4n] [.Fc [I 0,S [],S []] [(1,1),(2,1)],.LK 0 true true false]
def aNB(p:Ad):IT:=
 .BG 350 [S a2v,p] λa=>.rr [a]
def aED:Tq1 cx 225 aNB:=λ_=>Dv
def aEE:=NH 226 "wNRBsuRyKmM7AHUQbiBPtDCPIZDOeOCB2A3Zwnph"
def ZV:=E5 227 "3H83o1aerHb6WYNECR0iyq1Q2PoCNxn" [.int .i32 9,.int .i32 10,.int .i32 12,.int .i32 13,.int .i32 32]
def rO:=DN 228 "4jsgRd0hqLHlWXyiNcfnMECFnyaVk3"
def ZW:=NH 229 "1UaHLWLd8JgPD42lIaQqasX7RIWhcZG_Z0XzQbDSAkE4"
def rP:=DN 230 "7J6FrnPiM7NI5xA2TMUdOFCS6El8rCNv3u1kM7Xjg2m0TmziXBku8ubY2"
def ZX:=DN 232 "1nN2XnmtXl5hPC9sTsK0tDzNIcF5NRdRx1tFM9O3PN1mLfA0Vuw1ir14Y7PBHDvqBvoN"
def rQ:=DN 234 "49NFxpvxzE6"
def rR:=DN 235 "39xZa4GKt7OSgYt89CW05yVCB7DsRn" [] [.LK 0 true false true]
def rS:=DN 236 "qTzjwK"
def ZY:=DN 237 "4hplaog"
def ZZ:=DN 238 "3HsgEYAUxh3mIGN1MwE4fN1eH"
def rT:=NH 239 "IqRepUUvEddh2_6LekngrWwpORUwuIoP1hrDmrU4i"
def rU:=E5 240 "1J6VSd4KvYo"
def rV:=E5 241 "skMplGDa"
def rW:=E5 242 "3GrxJ5qM697tgCZYjt"
def Wa:=E5 243 "EaGQGn_R7Ef2XZ7RzJMU46zqRWKc47ah_q8ZXhw4KIaElNks5CXcZmzClGutFwdwZEqDB"
def rX:=E5 244 "1edOdQqW165EZ84Lr9T"
def rY:=E5 245 "3GrxJ7eW1jLCj4KkmY"
def rZ:=E5 246 "W6XYE5XOj97tWFoGYjqGN6QJElqeCt2"
def M0:=E5 247 "FmNWyMO8AK9f_61gpicvp9nsJSg5DY0YkF5k0MV74SNH6NHEhDVRgi0mnmjmtfXGVlJfXTfPC6PTwC6lstu238VRlVE_5pt6yqMT0qc5UuVqtyLLVwwnUFdlRQ5rXwepyBC_8K4MUtQ9Ah29mKJSnXStFFz7icGFgiF2k6cM9BNwRry5MrR8xjczCIjumQrWjtrlpPGPo0DqAgidqTFp4BAvrqAo186NtWpbA9N1NB1vrKUucgpy1INGem" [S [104,114],S a4J,S a4s,S a4K,S a27,S a2W,S a3N]
def sB:=E5 248 "G"
def QR:=E5 249 "1Lezt_ZL1aX9H6ieWnfv8JFdK0b4gxjqM_cfJH3G95P9uoK2_Iznavqfvmms7_AtUzjTPMHy3N68JenRdC0xpOd393l9lqnKJa9kgGjbPSSM3G1PqzKQDk9baFnpnXzTtUF6o3ttk" [S a2T,S a2U,S a3E,S a3h]
def Tz:=E5 250 "6R8P1xTBkclXhYX18gxdzwmpuRc7A4UNDmiIG6N6JhuhrXFYpO50g6GUlgP0hkCp_a2CBVcfFEcUOzjj97AzMoAnDVaXjhOFArj8K78Dr" [S a3t,S [114,112],S a4a,S [114,116]]
def TA:=E5 251 "8RcjYEbK2ejYt0NfwtI0Psidw0lHXZfc3GwFfPnJKrd1w6Zx_tDSluht7CbBngvPiA6Rxuc_epZFN_" [S a4l]
def sC:=E5 252 "1UuGzWb_duSxNjRAHXGlTmYc0nLUvB0g5h_MyDJf8dHhaYtbai0d_5EYJpw8W1qp804KB7gzxu8_HphM2cTgnSB2jljOjygnmeq9eY8zsHsxtmsE128uNfms8Q5xXF6Uj9SThaov3W862UFiEfSO3gMxhNlCXQzVjvkRhbBgORdnJ5TUYjhMS2ZXnalUEY9aoX5q0UQf57HACwxqJbquokyiI3TLX1sRPbVKqPds" [S [108,105],S a4e,S a4o]
def Z0:=E5 253 "N2hBUXfDW2Tx6htX_iOQf8rxsDquV_pvoWmuCw2cciOFtsKIfp_fGi" [S a3a]
def QS:=E5 254 "odPFYUIdUYzsHvLzM5qk8cckEHRhBhS40D5Tu5mWEetWfxPOz7kajxVDSfEoVWEl7rlw1QclGG7dS2ioCTqteXDcBMDPEnWGFtqZXbaaO" [S a2y] [.part 0 none]
def Wb:=E5 255 "1BC_GcspjGee8o5U5m2BgRs17kP2KG86Pcqa172tqXe7y86pKptQEJkqjYgTSE_x_xAyfY91BgplfOpbQ9ufW" [I 20]
def TB:=E5 256 "1BCXCCevKYW2zEx_29nCgOD40kjNe8FIetUdj6uKd0CDVO8YrtuDfu1u1Pvq4LEy0xcuqgmlV70TfISLF0HHT"
def Z3:=E5 257 "1gHZRyTezdVl3ph8WtHUPyx97nJ4fJ7RRG8ymCplIwHG7HFBAy6Pty9p_2ZM59tz" [S a2G]
def Z4:=E5 258 "mtkd5Ovwec6UT6HEGUwtoGB3bqkeEp9oQiEWixn7WVgsqOwr3uLfCrwKlkC" [S [97]]
def Z5:=E5 259 "2hODIsjab1nwPTsShk73np3QkXj4xMgJEJTQ1DeBuaoYFwmp2Y" [S a2P]
def Z6:=E5 260 "9OqUTV5MX2KPHfrYMq3fawdtjWTR7NexueIVliD1C0PcBhKCH9Mca8Vsov5QWGZWB8J6nszwMJ7vUKWC56_Ez"
def O4:=E5 261 "1woM6YxUqQr8LYl3RS9iGMpnTlfINuApGYzkO3zdMSXTa8y0OQc_gEbbCxo75jS2zOvvhgOfoLZwebnRiPwErV6_lSY_40Sov4ZEmIb88h72IkvpTsTyL" [I 11,I 16]
def Z7:=E5 262 "V2XWWCDsDhyhDUBJGYM40xscdz" [S a2B,I 19,S a2y]
def Z8:=E5 263 "tmNNhkF4e9bbds8otvHQahf"
def sD:=E5 264 "62_sGhHvvponH"
def Z9:=E5 265 "HQXmq2jyXDKBiS62eewJNXdMbfq2JaCqL1YG" [S a2L]
def aA:=E5 266 "FqZn9Ii_50pVJF4eQgZYBRTpkn2Ypg"
def O5:=E5 267 "44rQrvKbjycr7QetDZNGOECx8xrN1BI9wi9BBt1UBPgHE77E3qZZJWwkU7IDdNeWXN6xQE5IeTUVpQIbKsBBI6OGqHkfgR6Jq05ouk7ebTqiaChRaDugmxvGWBiGcnOCia0R17ed6QgQ8SMmBxMv6CCAdVQseVfPoGsA7aDRiNIQU6cUDgsx_07p967oRZl2YsQz09xmy0hF0seP" [S [112],S [108,105]]
def TC:=E5 268 "3HbYTdXExn2PI5wNBgzNto4t02xxYLv3zMv0QuDOgtr6uu00BIzZrO4aKJXg0Z"
def sE:=E5 269 "1_otIRzCe4jv99hV" [S [98,114]]
def aEF:=E5 270 "ay8g_nXhK2Oz8D1rXmzYQ3n4fPCxh118F" [.int .u8 9,.int .u8 10,.int .u8 12,.int .u8 13,.int .u8 32]
def L0:=rd4 271 "uFtcxSF8p08X32sEkWw8aQ5223TpjJmUglciatBFb6mlxu9Nt6ifbWcGl121unZ2M5eapA0oXWdoQgfup43YfLjsuVgcShtHRLqDPz0tMaMPAMy8oBmGV0jGO5d5Lr9_Ip5ZJ4NUWuXF7h2swxHp9fb3pEQxvF4XcujgLvUpKtYIe4gfCiGPEXYMSw5n"
def ya:=DN 272 "Yb23yuboTDajkERxBADbOfmlWVdXKYnYCpRfkugzs_gc4YEFvD6x_A37qoU6BE3yVLfq"
def aEG:=DN 273 "49NFk6OwwJE"
def aEH:=DN 274 "xvvE_AB6axkgbYHwRCXXZFM2BBp4CasRNJD1U7VUmTV7njD7DPJs36UorBAO"
def aEI:=DN 275 "bekX_vtA1FmpX"
def aEJ:=DN 276 "3aKMQpQyMFGzAB5SEh2qNcEvlV1q8Vs8THZ1elm6QSNMuxF24uFsruVRgK99eEsVZS0adQsyp3qsL09FXVhNPTnmWq3yfiRBAUc"
def aEK:=DN 277 "3XrMeypsxpEj7h8ZWjvnGqXBtAOMMKXKGhnySUSTIsZDGUxQ5VO0jHBuj5pzg"
def aEL:=DN 278 "QNsL8g6hrVebh8OnXiYDNjLFglcozo6jTz4W6XTAfrWFxPt4BvT"
def aEM:=DN 279 "60ttXEQJ6c1GStZywzIyd720vgv0TIQ4aV2DNK27XDNWn"
def aEN:=E5 280 "S1yjuIO1h" [S a2z]
def aEO:=E5 281 "H_TLLZPAVcX9E" [S a2B]
def aEP:=E5 282 "BDfaMO" [S a2L]
def aEQ:=DN 283 "5m94olWb7SpNddiLcCHq9N6mHyL7ipYZdY8b6pOGwcSd3DR8edMQf2QHTmA0_z5KY2xeTP4tovOjqwSHkt_eWZxYIukYszb6ndPK00nk3W0j4kTn1CY3R1xpZHJfMxT93qYVy5bO8VQySZ" [S a32,S a4H,S [112]]
end Go.Am
