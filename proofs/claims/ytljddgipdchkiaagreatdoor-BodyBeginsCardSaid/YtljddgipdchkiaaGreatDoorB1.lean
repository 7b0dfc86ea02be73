/- Lemmas -/
import GoSem.Step
set_option linter.all false
def Ac:=@if_neg
def Ae:=@if_pos
def Ag:=@Nat.le_refl
def Ai:=@List.getElem?_eq_getElem
def Aj:=@List.getElem?_append_left
def Ak:=@List.length_map
def Al:=@List.getElem?_eq_some_iff
def An:=@false_implies
def Ap:=@List.getElem?_set_ne
def Aq:=@true_implies
def As:=@List.length_take
def Au:=@not_false_eq_true
def Av:=@not_true_eq_false
def Aw:=@List.length_append
def Ax:=@List.mem_append
def Ay:=@decide_eq_false
def AA:=@decide_eq_true
def AB:=@List.take_succ_eq_append_getElem
def AF:=@List.drop_eq_getElem_cons
def AG:=@List.take_of_length_le
def AI:=@List.append_assoc
def AJ:=@List.getD_eq_getElem?_getD
def AL:=@List.getElem_mem
def AN:=@Nat.lt_or_ge
def AO:=@List.drop_of_length_le
def AQ:=@Nat.zero_le
def AS:=@List.getElem?_set_self
def AT:=@List.mem_cons
def AV:=@Int.toNat_natCast
def AW:=@eq_true
def A4:=@List.Sublist.refl
def A5:=@Array.getElem?_eq_some_iff
def A9:=@List.length_cons
def Bb:=@List.length_drop
def Bi:=@List.length_singleton
def Bj:=@List.mem_map
def Bk:=@List.map_cons
def Bl:=@List.getElem?_append_right
def Bm:=@List.mem_of_mem_take
def Bn:=@List.length_set
def Bq:=@Bool.and_eq_true
def Bs:=@Nat.add_zero
def Bu:=@Nat.le_trans
def Bv:=@List.take_length
def Bz:=@Option.some.injEq
def BB:=@List.mem_of_mem_drop
def BE:=@List.append_nil
def BF:=@List.map_append
def BG:=@Nat.add_mul
def BL:=@if_true
def BM:=@List.set_append_right
def BP:=@List.length_nil
def BQ:=@List.nil_append
def BT:=@List.mem_append_right
def BU:=@Nat.zero_add
def BW:=@ne_eq
def BY:=@List.set_eq_take_append_cons_drop
def B2:=@List.nodup_append
def B5:=@List.nodup_cons
def B7:=@List.size_toArray
def B9:=@Option.map_some
def Cb:=@congrArg
def Cc:=@Nat.zero_lt_one
def Cg:=@Array.length_toList
def Ch:=@List.getElem?_take
def Ci:=@List.mem_filterMap
def Cl:=@List.getElem?_map
def Cp:=@Nat.min_eq_left
def Cr:=@List.getElem?_drop
def Ct:=@Option.bind_some
def Cw:=@eq_self
def Cy:=@Bool.false_eq_true
def Cz:=@decide_eq_true_eq
def CC:=@List.mem_of_getElem?
def CD:=@List.mem_append_left
def CF:=@List.take_append_drop
def CI:=@List.take_append_of_le_length
def CJ:=@List.cons_append
def CP:=@List.getElem?_of_mem
def CR:=@Array.getElem?_eq_getElem
def CT:=@List.flatten_cons
def CU:=@List.getElem_map
def CV:=@List.getElem?_take_of_lt
def CW:=@List.map_nil
def C4:=@Nat.succ_pos
def C5:=@decide_eq_decide
def C6:=@Nat.sub_self
def C8:=@List.mem_or_eq_of_mem_set
def Dn:=@List.eq_nil_of_length_eq_zero
def Dp:=@decide_true
def Dr:=@Nat.lt_irrefl
def Dv:=@List.all_eq_true
def Dy:=@decide_false
def DB:=@List.mem_singleton
def DG:=@Ne.symm
def DH:=@List.mem_filter
def DT:=@Nat.mul_le_mul_right
def DV:=@List.filter_append
def D2:=@Option.some.inj
def D4:=@Nat.one_mul
def D9:=@List.getElem?_eq_none
def Ea:=@if_false
def Eb:=@List.take_sublist
def Eg:=@List.drop_drop
def Ek:=@List.map_set
def El:=@List.drop_length
def EC:=@List.length_pos_iff
def ED:=@List.findIdx?_eq_some_iff_findIdx_eq
def EE:=@List.reverse_cons
def EI:=@List.filterMap_append
def EV:=@Bool.false_or
def E1:=@List.cons.injEq
def E9:=@Nat.add_sub_cancel
def Fi:=@Nat.le_succ
def Fj:=@List.reverse_reverse
def Fs:=@List.map_take
def FA:=@List.take_take
def FB:=@List.take_left
def FE:=@Nat.mul_one
def FT:=@List.length_replicate
def F0:=@Array.eq_empty_of_size_eq_zero
def F7:=@Nat.le_add_right
def Gf:=@List.getElem_append_left
def Gw:=@Int.le_refl
def GG:=@List.find?_cons
def GV:=@Array.toList_append
def GW:=@Int.toNat_of_nonneg
def Hi:=@Array.getD_eq_getD_getElem?
def Hl:=@Nat.le_max_right
def Hm:=@Option.getD_some
def Hn:=@List.filter_cons
def HB:=@Array.ext'
def HM:=@List.extract_eq_take_drop
def HN:=@Nat.le_max_left
def HO:=@List.take_left'
def HY:=@bne_self_eq_false
def HZ:=@of_decide_eq_true
def Ih:=@Prod.mk.injEq
def Iq:=@List.reverse_append
def Ir:=@List.filterMap_cons
def IJ:=@Nat.le_mul_of_pos_right
def IK:=@List.getElem?_cons_zero
def IL:=@Bool.not_false
def IM:=@Int.eq_ofNat_of_zero_le
def Jg:=@List.drop_append_of_le_length
def Jm:=@Nat.eq_zero_or_pos
def Jn:=@Bool.true_or
def Jo:=@List.reverse_singleton
def Jp:=@List.find?_eq_none
def Jq:=@Int.not_lt
def JA:=@List.drop_left'
def JF:=@Bool.or_false
def JG:=@List.map_drop
def JH:=@List.any_cons
def JR:=@List.singleton_append
def JS:=@List.set_getElem_self
def J5:=@Array.size_append
def Kq:=@List.take_zero
def Kr:=@Array.replicate_succ
def Ks:=@Array.replicate_zero
def KE:=@List.getLast?_eq_getElem?
def KQ:=@List.toList_toArray
def KR:=@List.flatten_append
def KS:=@List.replicate_succ
def KT:=@List.append_toArray
def KU:=@List.length_reverse
def Lv:=@Bool.eq_iff_iff
def LK:=@Nat.lt_of_lt_of_le
def LO:=@List.getElem?_cons_succ
def LP:=@List.length_eq_zero_iff
def Mx:=@List.drop_zero
def My:=@Nat.le_of_eq
def Mz:=@Nat.zero_mul
def MA:=@List.flatMap_cons
def MB:=@and_true
def MC:=@List.nodup_nil
def MD:=@true_and
def ME:=@Option.map_eq_some_iff
def MF:=@List.push_toArray
def MG:=@Nat.le_of_lt
def MH:=@List.any_nil
def M4:=@Array.getElem?_modify
def M5:=@Nat.eq_of_beq_eq_true
def Ng:=@Array.toList_map
def Nh:=@not_or
def Ni:=@Nat.lt_succ_self
def Nj:=@List.any_eq_true
def NW:=@Array.toList_extract
def OE:=@Bool.or_eq_true
def OP:=@List.take_set_of_le
def OQ:=@List.drop_take_self
def OR:=@List.mem_map_of_mem
def O1:=@Nat.add_comm
def O2:=@Nat.ne_of_lt
def P0:=@Array.ext_getElem?
def P1:=@List.set_cons_zero
def P2:=@Int.fdiv_eq_ediv_of_nonneg
def QD:=@Option.filter_eq_some_iff
def QE:=@List.mem_of_find?_eq_some
def Q3:=@List.ext_getElem?
def Q4:=@List.find?_append
def RC:=@Bool.not_true
def RD:=@Nat.add_assoc
def RE:=@Bool.bne_true
def S3:=@decide_eq_false_iff_not
def S4:=@List.drop_append
def S5:=@List.reverse_nil
def S6:=@Option.bind_eq_some_iff
def S7:=@Nat.add_sub_cancel_left
def S8:=@List.not_mem_nil
def S9:=@List.map_reverse
def T1:=@List.sublist_cons_self
def UL:=@List.find?_some
def UM:=@List.any_append
def UN:=@UInt8.toNat_inj
def Vr:=@List.length_filter_le
def YL:=@List.mem_cons_of_mem
def YU:=@false_and
def Zv:=@List.take_succ_cons
def Zw:=@List.drop_set_of_lt
def Zx:=@Array.getElem?_push
def Zy:=@List.map_congr_left
def Zz:=@List.getD_cons_zero
def ZA:=@List.getD_cons_succ
def ZB:=@List.filter_eq_self
def bI:=@List.all_cons
def j7:=@Option.isSome_some
def oU:=@and_self
def oV:=@dif_pos
def oW:=@List.getLast?_nil
def pD:=@Array.getElem?_setIfInBounds_ne
def pE:=@List.takeWhile_append_dropWhile
def uO:=@List.zipIdx_cons
def uP:=@List.take_append
def uQ:=@List.mem_flatMap
def uR:=@Nat.max_eq_right
def jd:=@List.foldl_cons
def jw:=@eq_comm
def wz:=@beq_iff_eq
def w_:=@Bool.and_false
def xa:=@Bool.bne_false
def xb:=@Bool.false_and
def xl:=@List.getElem_append_right
def Ĳ:=@List.take_add
def ĳ:=@List.eq_of_mem_replicate
def Ĵ:=@List.drop_nil
def ĵ:=@List.take_nil
def Ķ:=@Int.lt_irrefl
def ķ:=@Int.ofNat.inj
def aAq:=@and_false
def aAr:=@List.filter_cons_of_pos
def aDa:=@List.length_eq_one_iff
def aDb:=@Iff.rfl
def aDc:=@Bool.or_true
def aDd:=@List.set_set
def aDe:=@List.getElem_cons_zero
def aDP:=@List.contains_iff_mem
def aDQ:=@Array.getElem?_toList
def aDR:=@List.dropLast_eq_take
def aDS:=@List.getElem_set_self
def aHY:=@List.getElem?_append
def aHZ:=@List.range_eq_range'
def aH0:=@List.pairwise_append
def aH1:=@or_false
def aH2:=@List.mem_of_getLast?
def aIN:=@Nat.add_sub_cancel'
def aIO:=@Array.toList_zipIdx
def aIP:=@List.takeWhile_cons
def aIQ:=@List.dropWhile_cons
def aMS:=@List.zip_cons_cons
def aMT:=@Array.foldl_toList
def aMU:=@List.pairwise_cons
def aMV:=@Option.isSome_none
def aMW:=@List.findIdx?_cons
def aMX:=@Option.toList_some
def aMY:=@List.map_singleton
def aMZ:=@List.set_cons_succ
def aOj:=@Bool.not_eq_true'
def aOk:=@List.getElem?_set
def aOl:=@List.pairwise_map
def aOn:=@List.any_eq_false
def aOo:=@List.drop_sublist
def aOq:=@List.find?_isSome
def aOr:=@List.getElem_take
def aOs:=@Decidable.not_not
abbrev aSw:List UInt8:=[97,116,116,114,105,98,117,116,101,78,97,109,101,32,97,116,116,114,105,98,117,116,101,84,121,112,101,32,98,97,115,101,70,114,101,113,117,101,110,99,121,32,98,97,115,101,80,114,111,102,105,108,101,32,99,97,108,99,77,111,100,101,32,99,108,105,112,80,97,116,104,85,110,105,116,115,32,100,105,102,102,117,115,101,67,111,110,115,116,97,110,116,32,101,100,103,101,77,111,100,101,32,102,105,108,116,101,114,85,110,105,116,115,32,103,108,121,112,104,82,101,102,32,103,114,97,100,105,101,110,116,84,114,97,110,115,102,111,114,109,32,103,114,97,100,105,101,110,116,85,110,105,116,115,32,107,101,114,110,101,108,77,97,116,114,105,120,32,107,101,114,110,101,108,85,110,105,116,76,101,110,103,116,104,32,107,101,121,80,111,105,110,116,115,32,107,101,121,83,112,108,105,110,101,115,32,107,101,121,84,105,109,101,115,32,108,101,110,103,116,104,65,100,106,117,115,116,32,108,105,109,105,116,105,110,103,67,111,110,101,65,110,103,108,101,32,109,97,114,107,101,114,72,101,105,103,104,116,32,109,97,114,107,101,114,85,110,105,116,115,32,109,97,114,107,101,114,87,105,100,116,104,32,109,97,115,107,67,111,110,116,101,110,116,85,110,105,116,115,32,109,97,115,107,85,110,105,116,115,32,110,117,109,79,99,116,97,118,101,115,32,112,97,116,104,76,101,110,103,116,104,32,112,97,116,116,101,114,110,67,111,110,116,101,110,116,85,110,105,116,115,32,112,97,116,116,101,114,110,84,114,97,110,115,102,111,114,109,32,112,97,116,116,101,114,110,85,110,105,116,115,32,112,111,105,110,116,115,65,116,88,32,112,111,105,110,116,115,65,116,89,32,112,111,105,110,116,115,65,116,90,32,112,114,101,115,101,114,118,101,65,108,112,104,97,32,112,114,101,115,101,114,118,101,65,115,112,101,99,116,82,97,116,105,111,32,112,114,105,109,105,116,105,118,101,85,110,105,116,115,32,114,101,102,88,32,114,101,102,89,32,114,101,112,101,97,116,67,111,117,110,116,32,114,101,112,101,97,116,68,117,114,32,114,101,113,117,105,114,101,100,69,120,116,101,110,115,105,111,110,115,32,114,101,113,117,105,114,101,100,70,101,97,116,117,114,101,115,32,115,112,101,99,117,108,97,114,67,111,110,115,116,97,110,116,32,115,112,101,99,117,108,97,114,69,120,112,111,110,101,110,116,32,115,112,114,101,97,100,77,101,116,104,111,100,32,115,116,97,114,116,79,102,102,115,101,116,32,115,116,100,68,101,118,105,97,116,105,111,110,32,115,116,105,116,99,104,84,105,108,101,115,32,115,117,114,102,97,99,101,83,99,97,108,101,32,115,121,115,116,101,109,76,97,110,103,117,97,103,101,32,116,97,98,108,101,86,97,108,117,101,115,32,116,97,114,103,101,116,88,32,116,97,114,103,101,116,89,32,116,101,120,116,76,101,110,103,116,104,32,118,105,101,119,66,111,120,32,118,105,101,119,84,97,114,103,101,116,32,120,67,104,97,110,110,101,108,83,101,108,101,99,116,111,114,32,121,67,104,97,110,110,101,108,83,101,108,101,99,116,111,114,32,122,111,111,109,65,110,100,80,97,110]
abbrev aSx:List UInt8:=[97,100,100,114,101,115,115,32,97,112,112,108,101,116,32,97,114,101,97,32,97,114,116,105,99,108,101,32,97,115,105,100,101,32,98,97,115,101,32,98,97,115,101,102,111,110,116,32,98,103,115,111,117,110,100,32,98,108,111,99,107,113,117,111,116,101,32,98,111,100,121,32,98,114,32,98,117,116,116,111,110,32,99,97,112,116,105,111,110,32,99,101,110,116,101,114,32,99,111,108,32,99,111,108,103,114,111,117,112,32,100,100,32,100,101,116,97,105,108,115,32,100,105,114,32,100,105,118,32,100,108,32,100,116,32,101,109,98,101,100,32,102,105,101,108,100,115,101,116,32,102,105,103,99,97,112,116,105,111,110,32,102,105,103,117,114,101,32,102,111,111,116,101,114,32,102,111,114,109,32,102,114,97,109,101,32,102,114,97,109,101,115,101,116,32,104,49,32,104,50,32,104,51,32,104,52,32,104,53,32,104,54,32,104,101,97,100,32,104,101,97,100,101,114,32,104,103,114,111,117,112,32,104,114,32,104,116,109,108,32,105,102,114,97,109,101,32,105,109,103,32,105,110,112,117,116,32,107,101,121,103,101,110,32,108,105,32,108,105,110,107,32,108,105,115,116,105,110,103,32,109,97,105,110,32,109,97,114,113,117,101,101,32,109,101,110,117,32,109,101,116,97,32,110,97,118,32,110,111,101,109,98,101,100,32,110,111,102,114,97,109,101,115,32,110,111,115,99,114,105,112,116,32,111,98,106,101,99,116,32,111,108,32,112,32,112,97,114,97,109,32,112,108,97,105,110,116,101,120,116,32,112,114,101,32,115,99,114,105,112,116,32,115,101,97,114,99,104,32,115,101,99,116,105,111,110,32,115,101,108,101,99,116,32,115,111,117,114,99,101,32,115,116,121,108,101,32,115,117,109,109,97,114,121,32,116,97,98,108,101,32,116,98,111,100,121,32,116,100,32,116,101,109,112,108,97,116,101,32,116,101,120,116,97,114,101,97,32,116,102,111,111,116,32,116,104,32,116,104,101,97,100,32,116,105,116,108,101,32,116,114,32,116,114,97,99,107,32,117,108,32,119,98,114,32,120,109,112]
abbrev aSy:List UInt8:=[97,108,116,71,108,121,112,104,32,97,108,116,71,108,121,112,104,68,101,102,32,97,108,116,71,108,121,112,104,73,116,101,109,32,97,110,105,109,97,116,101,67,111,108,111,114,32,97,110,105,109,97,116,101,77,111,116,105,111,110,32,97,110,105,109,97,116,101,84,114,97,110,115,102,111,114,109,32,99,108,105,112,80,97,116,104,32,102,101,66,108,101,110,100,32,102,101,67,111,108,111,114,77,97,116,114,105,120,32,102,101,67,111,109,112,111,110,101,110,116,84,114,97,110,115,102,101,114,32,102,101,67,111,109,112,111,115,105,116,101,32,102,101,67,111,110,118,111,108,118,101,77,97,116,114,105,120,32,102,101,68,105,102,102,117,115,101,76,105,103,104,116,105,110,103,32,102,101,68,105,115,112,108,97,99,101,109,101,110,116,77,97,112,32,102,101,68,105,115,116,97,110,116,76,105,103,104,116,32,102,101,68,114,111,112,83,104,97,100,111,119,32,102,101,70,108,111,111,100,32,102,101,70,117,110,99,65,32,102,101,70,117,110,99,66,32,102,101,70,117,110,99,71,32,102,101,70,117,110,99,82,32,102,101,71,97,117,115,115,105,97,110,66,108,117,114,32,102,101,73,109,97,103,101,32,102,101,77,101,114,103,101,32,102,101,77,101,114,103,101,78,111,100,101,32,102,101,77,111,114,112,104,111,108,111,103,121,32,102,101,79,102,102,115,101,116,32,102,101,80,111,105,110,116,76,105,103,104,116,32,102,101,83,112,101,99,117,108,97,114,76,105,103,104,116,105,110,103,32,102,101,83,112,111,116,76,105,103,104,116,32,102,101,84,105,108,101,32,102,101,84,117,114,98,117,108,101,110,99,101,32,102,111,114,101,105,103,110,79,98,106,101,99,116,32,103,108,121,112,104,82,101,102,32,108,105,110,101,97,114,71,114,97,100,105,101,110,116,32,114,97,100,105,97,108,71,114,97,100,105,101,110,116,32,116,101,120,116,80,97,116,104]
abbrev aSz:List UInt8:=[116,101,109,112,108,97,116,101]
abbrev aSA:List UInt8:=[120,108,105,110,107,58,97,99,116,117,97,116,101,32,120,108,105,110,107,58,97,114,99,114,111,108,101,32,120,108,105,110,107,58,104,114,101,102,32,120,108,105,110,107,58,114,111,108,101,32,120,108,105,110,107,58,115,104,111,119,32,120,108,105,110,107,58,116,105,116,108,101,32,120,108,105,110,107,58,116,121,112,101]
abbrev aSB:List UInt8:=[98,97,115,101,32,98,97,115,101,102,111,110,116,32,98,103,115,111,117,110,100,32,108,105,110,107,32,109,101,116,97,32,110,111,102,114,97,109,101,115,32,115,99,114,105,112,116,32,115,116,121,108,101,32,116,101,109,112,108,97,116,101,32,116,105,116,108,101]
abbrev aSC:List UInt8:=[104,116,109,108]
abbrev aSD:List UInt8:=[97,112,112,108,101,116,32,99,97,112,116,105,111,110,32,104,116,109,108,32,109,97,114,113,117,101,101,32,111,98,106,101,99,116,32,116,97,98,108,101,32,116,100,32,116,101,109,112,108,97,116,101,32,116,104]
abbrev aSE:List UInt8:=[100,100,32,100,116,32,108,105,32,111,112,116,103,114,111,117,112,32,111,112,116,105,111,110,32,112,32,114,98,32,114,112,32,114,116,32,114,116,99]
abbrev aSF:List UInt8:=[99,97,112,116,105,111,110,32,99,111,108,103,114,111,117,112,32,116,98,111,100,121,32,116,100,32,116,102,111,111,116,32,116,104,32,116,104,101,97,100,32,116,114]
abbrev aSG:List UInt8:=[97,110,110,111,116,97,116,105,111,110,45,120,109,108]
abbrev aSH:List UInt8:=[45,47,47,87,51,67,47,47,68,84,68,32,72,84,77,76,32,69,120,112,101,114,105,109,101,110,116,97,108,32,49,57,57,54,48,55,49,50,47,47]
abbrev aSI:List UInt8:=[116,97,98,108,101,32,116,98,111,100,121,32,116,102,111,111,116,32,116,104,101,97,100,32,116,114]
abbrev aSJ:List UInt8:=[45,47,47,87,51,67,47,47,68,84,68,32,72,84,77,76,32,69,120,112,101,114,105,109,101,110,116,97,108,32,57,55,48,52,50,49,47,47]
abbrev aSK:List UInt8:=[100,101,115,99,32,102,111,114,101,105,103,110,79,98,106,101,99,116,32,116,105,116,108,101]
abbrev aSL:List UInt8:=[45,47,47,87,51,67,47,47,68,84,68,32,72,84,77,76,32,52,46,48,49,32,84,114,97,110,115,105,116,105,111,110,97,108,47,47]
abbrev aSM:List UInt8:=[45,47,47,87,51,67,47,47,68,84,68,32,72,84,77,76,32,52,46,48,32,84,114,97,110,115,105,116,105,111,110,97,108,47,47]
abbrev aSN:List UInt8:=[45,47,47,87,51,79,47,47,68,84,68,32,87,51,32,72,84,77,76,32,83,116,114,105,99,116,32,51,46,48,47,47,69,78,47,47]
abbrev aSO:List UInt8:=[45,47,87,51,67,47,68,84,68,32,72,84,77,76,32,52,46,48,32,84,114,97,110,115,105,116,105,111,110,97,108,47,69,78]
abbrev aSP:List UInt8:=[104,101,97,100,32,98,111,100,121,32,104,116,109,108,32,98,114]
abbrev aSQ:List UInt8:=[45,47,47,87,51,67,47,47,68,84,68,32,72,84,77,76,32,52,46,48,49,32,70,114,97,109,101,115,101,116,47,47]
abbrev aSR:List UInt8:=[116,97,98,108,101]
abbrev aSS:List UInt8:=[45,47,47,87,51,67,47,47,68,84,68,32,72,84,77,76,32,52,46,48,32,70,114,97,109,101,115,101,116,47,47]
abbrev aST:List UInt8:=[45,47,47,87,51,67,47,47,68,84,68,32,72,84,77,76,32,51,32,49,57,57,53,45,48,51,45,50,52,47,47]
abbrev aSU:List UInt8:=[111,112,116,103,114,111,117,112,32,111,112,116,105,111,110]
abbrev aSV:List UInt8:=[97,112,112,108,105,99,97,116,105,111,110,47,120,104,116,109,108,43,120,109,108]
abbrev aSW:List UInt8:=[98,117,116,116,111,110]
abbrev aSX:List UInt8:=[45,47,47,73,69,84,70,47,47,68,84,68,32,72,84,77,76,32,76,101,118,101,108,32]
abbrev aSY:List UInt8:=[45,47,47,73,69,84,70,47,47,68,84,68,32,72,84,77,76,32,83,116,114,105,99,116]
abbrev aSZ:List UInt8:=[45,47,47,87,51,79,47,47,68,84,68,32,87,51,32,72,84,77,76,32,51,46,48,47,47]
abbrev aS0:List UInt8:=[120,109,108,110,115,58,120,108,105,110,107]
abbrev aS1:List UInt8:=[45,47,47,73,69,84,70,47,47,68,84,68,32,72,84,77,76,32,50,46,49,69,47,47]
abbrev aS2:List UInt8:=[99,97,112,116,105,111,110]
abbrev aS3:List UInt8:=[104,116,109,108,32,116,97,98,108,101,32,116,101,109,112,108,97,116,101]
abbrev aS4:List UInt8:=[102,111,114,101,105,103,110,79,98,106,101,99,116]
abbrev aS5:List UInt8:=[120,108,105,110,107,58,97,114,99,114,111,108,101]
abbrev aS6:List UInt8:=[120,108,105,110,107,58,97,99,116,117,97,116,101]
abbrev aS7:List UInt8:=[109,105,32,109,110,32,109,111,32,109,115,32,109,116,101,120,116]
abbrev aS8:List UInt8:=[45,47,47,73,69,84,70,47,47,68,84,68,32,72,84,77,76,32,50,46,48]
abbrev aS9:List UInt8:=[45,47,47,87,51,67,47,47,68,84,68,32,87,51,32,72,84,77,76,47,47]
abbrev aTa:List UInt8:=[45,47,47,87,51,67,47,47,68,84,68,32,72,84,77,76,32,51,46,50]
abbrev aTb:List UInt8:=[120,108,105,110,107,58,116,105,116,108,101]
abbrev aTc:List UInt8:=[45,47,47,73,69,84,70,47,47,68,84,68,32,72,84,77,76,32,51]
abbrev aTd:List UInt8:=[45,47,47,73,69,84,70,47,47,68,84,68,32,72,84,77,76,47,47]
abbrev aTe:List UInt8:=[104,49,32,104,50,32,104,51,32,104,52,32,104,53,32,104,54]
abbrev aTf:List UInt8:=[120,109,108,58,115,112,97,99,101]
abbrev aTg:List UInt8:=[120,109,108,110,115]
abbrev aTh:List UInt8:=[111,112,116,103,114,111,117,112]
abbrev aTi:List UInt8:=[99,111,108,103,114,111,117,112]
abbrev aTj:List UInt8:=[120,108,105,110,107,58,104,114,101,102]
abbrev aTk:List UInt8:=[120,108,105,110,107,58,114,111,108,101]
abbrev aTl:List UInt8:=[120,108,105,110,107,58,115,104,111,119]
abbrev aTm:List UInt8:=[120,108,105,110,107,58,116,121,112,101]
abbrev aTn:List UInt8:=[102,114,97,109,101,115,101,116]
abbrev aTo:List UInt8:=[100,101,102,105,110,105,116,105,111,110,117,114,108]
abbrev aTp:List UInt8:=[97,112,112,108,101,116,32,109,97,114,113,117,101,101,32,111,98,106,101,99,116]
abbrev aTq:List UInt8:=[120,109,108,58,108,97,110,103]
abbrev aTr:List UInt8:=[111,112,116,105,111,110]
abbrev aTs:List UInt8:=[100,101,102,105,110,105,116,105,111,110,85,82,76]
abbrev aTt:List UInt8:=[116,102,111,111,116]
abbrev aTu:List UInt8:=[116,105,116,108,101]
abbrev aTv:List UInt8:=[104,101,97,100]
abbrev aTw:List UInt8:=[116,98,111,100,121]
abbrev aTx:List UInt8:=[116,104,101,97,100]
abbrev aTy:List UInt8:=[98,111,100,121]
abbrev aTz:List UInt8:=[115,101,108,101,99,116]
abbrev aTA:List UInt8:=[116,101,120,116,47,104,116,109,108]
abbrev aTB:List UInt8:=[120,108,105,110,107]
abbrev aTC:List UInt8:=[101,110,99,111,100,105,110,103]
abbrev aTD:List UInt8:=[109,97,114,113,117,101,101]
abbrev aTE:List UInt8:=[97,114,99,114,111,108,101]
abbrev aTF:List UInt8:=[97,99,116,117,97,116,101]
abbrev aTG:List UInt8:=[97,112,112,108,101,116]
abbrev aTH:List UInt8:=[111,98,106,101,99,116]
abbrev aTI:List UInt8:=[116,121,112,101]
abbrev aTJ:List UInt8:=[100,101,115,99]
abbrev aTK:List UInt8:=[110,111,115,99,114,105,112,116]
abbrev aTL:List UInt8:=[111,108,32,117,108]
abbrev aTM:List UInt8:=[115,112,97,99,101]
abbrev aTN:List UInt8:=[104,114,101,102]
abbrev aTO:List UInt8:=[114,111,108,101]
abbrev aTP:List UInt8:=[115,104,111,119]
theorem Ab{p:Prop}(h:p:=by omega):p:=h
theorem AH{p:Prop}(h:p:=by simp):p:=h
theorem AX{p:Prop}(h:p:=by decide):p:=h
theorem EF{p:Prop}(h:p:=by decide +kernel):p:=h
theorem Dq{p:Prop}(h:p:=by simp only; omega):p:=h
theorem Ee{p:Prop}(h:p:=by simp; omega):p:=h
theorem IW{p:Prop}(h:p:=by simp[Go.Op.operands]):p:=h
theorem Rd{p:Prop}(h:p:=by simp[Go.Value.cells,Go.Value.oneCell']):p:=h
section
section
namespace Go.Am
abbrev Ao:=List UInt8
inductive Aa where
 |bool (b:Bool)
 |int (k:IntKind) (n:Int)
 |str (s:Ao)
 |ptr (p:Option (Nat×Nat))
 |CG (cells:List Aa)
 |sl (size:Nat) (AD:List (List Aa))
 |slnil
 |Gb (size:Nat)
 |CE (id off len size:Nat)
 |map (m:Option Nat)
 |func (fn:Fn) (first captured:List Aa)
 |nilFunc
 |iface (t:TypeId) (v:Aa)
 |nilIface
 |agg (cells:List Aa)
 |tuple (vs:List Aa)
 deriving Inhabited
mutual
def Aa.beq:Aa->Aa->Bool
 | .bool a,.bool b=>a==b
 | .int k a,.int l b=>k==l&&a==b
 | .str a,.str b=>a==b
 | .ptr a,.ptr b=>a==b
 | .CG a,.CG b=>Aa.RK a b
 | .sl n a,.sl m b=>n==m&&Aa.RL a b
 | .slnil,.slnil=>true
 | .Gb a,.Gb b=>a==b
 | .CE a b c d,.CE a' b' c' e=>a==a'&&b==b'&&c==c'&&d==e
 | .map a,.map b=>a==b
 | .func f a b,.func f' a' b'=>f==f'&&Aa.RK a a'&&Aa.RK b b'
 | .nilFunc,.nilFunc=>true
 | .iface t a,.iface t' a'=>t==t'&&Aa.beq a a'
 | .nilIface,.nilIface=>true
 | .agg a,.agg b=>Aa.RK a b
 | .tuple a,.tuple b=>Aa.RK a b
 |_,_=>false
def Aa.RK:List Aa->List Aa->Bool
 |[],[]=>true
 |a::x,b::y=>Aa.beq a b&&Aa.RK x y
 |_,_=>false
def Aa.RL:List (List Aa)->List (List Aa)->Bool
 |[],[]=>true
 |a::x,b::y=>Aa.RK a b&&Aa.RL x y
 |_,_=>false
end
def Aa.cells:Aa->List Aa
 | .agg cs=>cs
 | .tuple _=>[]
 |v=>[v]
inductive Dw where
 |cells (cs:List Aa)
 |map (es:List (Aa×Aa))
 |CO
 deriving Inhabited
abbrev Ah:=List Dw
inductive kF where
 |copy (size:Nat)
 |clear (size:Nat) (zero:List Aa)
 |bc (size:Nat) (lo hi:Bool)
 |pF (size:Nat)
 |aDT (t:TypeId)
 |jx (zero:Aa) (ok:Bool)
 |Te (zero:Aa)
 |pG (zero:Aa)
 |O4
 |xm
 |jy
 |Q5 (g:Ah->List Aa->Option (Ah×Aa))
def kF.aDU:kF->Bool
 | .pF _| .clear _ _| .O4| .xm=>true
 |_=>false
inductive En where
 |undef
 |skip
 |val (v:Aa)
 |OS (b:Bool)
 |Bt (v:Aa)
 |box (ver:Nat) (cells:List Aa) (Bt:List Nat)
 |Fk (s off:Nat)
 deriving Inhabited
abbrev BR:=List En
def BR.at(U:BR)(s:Nat):En:=U.getD s .undef
def En.Hq:En->Option Aa
 | .val v| .Bt v=>some v
 | .OS b=>some (.bool b)
 |_=>none
inductive FK where
 |b|i|s
 deriving DecidableEq,Inhabited
inductive NK where
 |sl|fn|mp
 deriving DecidableEq,Inhabited
inductive RM where
 |int (op:BinOp)
 |str (op:BinOp)
 |beq (neg:Bool)
 |geq (neg:Bool) (ks:List FK)
 |peq (neg:Bool)
 |Gy (neg:Bool) (k:NK)
 |un (op:UnOp)
 |conv(k:IntKind)
 |pick
 |part (off:Nat) (n:Option Nat)
 |aAt (len size:Nat) (n:Option Nat)
 |YV
 |K8 (off:Nat)
 |E2 (size:Nat)
 |T2 (len size:Nat)
 |len (isStr:Bool)
 |append (size bytes:Nat)
 |KA (size:Nat) (isStr lo hi:Bool)
 |ext (i:Nat)
 |JI
 |Dh (size:Nat)
 |Gb (size:Nat)
 |Cm (zero:List Aa) (places:List (Nat×Nat))
 |Lw (isMax:Bool)
 |Wh
 |s2b
 |i2s
 deriving Inhabited
def O5:Value->Option Aa
 | .bool b=>some (.bool b)
 | .int k n=>some (.int k n)
 | .string s=>some (.str s.data.toList)
 | .pointer none=>some (.ptr none)
 | .slice none 0 0=>some .slnil
 | .map none=>some (.map none)
 | .func fn f c=>if f.size=0/\c.size=0 then some (.func fn [] []) else none
 | .nilFunc=>some .nilFunc
 | .nilIface=>some .nilIface
 |_=>none
def L2:List Value->Option (List Aa)
 |[]=>some []
 |v::vs=>match O5 v,L2 vs with
  |some a,some as=>some (a::as)
  |_,_=>none
def KV:Value->Option Aa
 | .agg cs=>(L2 cs.toList).map .agg
 |v=>O5 v
def P3:Sem Value->Option Value
 | .pure v=>some v
 |_=>none
def AM:Nat:=140737488355328
def uS(op:BinOp)(k:IntKind)(a:Int)(l:IntKind)(b:Int):Option Aa:=
 (P3 (binOp op 0 (.int k a) (.int l b))).bind λv=>match v with
  | .int k n=>some (.int k n)
  | .bool b=>some (.bool b)
  |_=>none
def kG(op:BinOp)(a b:Ao):Option Aa:=
 match op with
 | .add=>if a.length+b.length<=9223372036854775807 then some (.str (a++b)) else none
 | .eql=>some (.bool (a==b))
 | .neq=>some (.bool (!(a==b)))
 | .lss=>some (.bool (Op.bytesLess a b))
 | .leq=>some (.bool (Op.bytesLess a b||a==b))
 | .gtr=>some (.bool (!(Op.bytesLess a b||a==b)))
 | .geq=>some (.bool (!(Op.bytesLess a b)))
 |_=>none
def Lx:FK->Aa->Aa->Option Bool
 | .b,.bool a,.bool b=>some (a==b)
 | .i,.int k a,.int l b=>if k=l then some (a==b) else none
 | .s,.str a,.str b=>some (a==b)
 |_,_,_=>none
def D5:List FK->List Aa->List Aa->Option Bool
 |[],[],[]=>some true
 |k::ks,a::x,b::y=>match Lx k a b,D5 ks x y with
  |some e,some es=>some (e&&es)
  |_,_=>none
 |_,_,_=>none
def uT:Aa->Aa->Option Bool
 | .ptr none,.ptr b=>some b.isNone
 | .ptr (some _),.ptr none=>some false
 | .ptr (some a),.ptr (some b)=>if a=b then some true else none
 | .ptr none,.CG _=>some false
 | .CG _,.ptr none=>some false
 |_,_=>none
def uU:NK->Aa->Aa->Option Bool
 | .sl,.slnil,.slnil=>some true
 | .sl,.slnil,.sl _ _=>some false
 | .sl,.sl _ _,.slnil=>some false
 | .sl,.slnil,.Gb _=>some false
 | .sl,.Gb _,.slnil=>some false
 | .sl,.slnil,.CE _ _ _ _=>some false
 | .sl,.CE _ _ _ _,.slnil=>some false
 | .fn,.nilFunc,.nilFunc=>some true
 | .fn,.nilFunc,.func _ _ _=>some false
 | .fn,.func _ _ _,.nilFunc=>some false
 | .mp,.map none,.map b=>some b.isNone
 | .mp,.map (some _),.map none=>some false
 |_,_,_=>none
def Ft(cs:List Aa)(off:Nat):Option Nat->Option Aa
 |none=>cs[off]?
 |some n=>if off+n<=cs.length then some (.agg ((cs.drop off).take n)) else none
def L8(n:Int)(len:Nat):Option Nat:=if 0<=n/\n<len then some n.toNat else none
def E3(n:Int)(top:Nat):Option Nat:=if 0<=n/\n<=top then some n.toNat else none
def DX(lo hi:Bool)(len:Nat)(as:List Aa):Option (Nat×Nat):=
 match lo,hi with
 |false,false=>match as with
  |[]=>some (0,len)
  |_=>none
 |false,true=>match as with
  |[.int _ h]=>(E3 h len).map λh=>(0,h)
  |_=>none
 |true,false=>match as with
  |[.int _ l]=>(E3 l len).map λl=>(l,len)
  |_=>none
 |true,true=>match as with
  |[.int _ l,.int _ h]=>(E3 h len).bind λh=>(E3 l h).map λl=>(l,h)
  |_=>none
def MM:List (List Aa)->Option Ao
 |[]=>some []
 |[.int .u8 n]::rs=>(MM rs).map λl=>n.toNat.toUInt8::l
 |_=>none
def Cd(s:Ao):List (List Aa):=s.map λb=>[.int .u8 b.toNat]
def DI(size bytes:Nat)(s:Aa)(AD:List (List Aa)):Option Aa:=
 match AD with
 |[]=>match s with
  | .slnil=>some .slnil
  | .Gb z=>if z=size then some (.Gb z) else none
  | .sl z r=>if z=size then some (.sl z r) else none
  |_=>none
 |AD=>match s with
  | .slnil=>if AD.length*bytes<=AM then some (.sl size AD) else none
  | .Gb z=>if z=size/\AD.length*bytes<=AM then some (.sl size AD) else none
  | .sl z r=>if z=size/\(r.length+AD.length)*bytes<=AM then some (.sl size (r++AD)) else none
  |_=>none
def AP(cs:List Aa):List ((Nat×Nat)×Aa)->Option (List Aa)
 |[]=>some cs
 |((off,size),v)::rest=>if 0<size/\v.cells.length=size/\off+size<=cs.length then AP (cs.take off++v.cells++cs.drop (off+size)) rest else none
def ĸ(k:IntKind)(n:Int):Option Aa:=
 (P3 (Op.unary .xor (.int k n))).bind λv=>match v with
  | .int k n=>some (.int k n)
  |_=>none
def aAu:UnOp->Aa->Option Aa
 | .not,.bool b=>some (.bool (!b))
 | .neg,.int k n=>some (.int k (k.wrap (0 -n)))
 | .xor,.int k n=>ĸ k n
 |_,_=>none
def Wi(p:Aa)(off:Nat):Option Aa:=
 match p with
 | .CG cs=>some (.CG (cs.drop off))
 | .ptr (some (id,o))=>some (.ptr (some (id,o+off)))
 |_=>none
def elemOf(size:Nat)(s:Aa)(i:Int):Option Aa:=
 match s with
 | .sl z AD=>if z=size then(if 0<=i then(AD[i.toNat]?).map .CG else none) else none
 | .CE id off len z=>if z=size then(L8 i len).map λi=> .ptr (some (id,off+i*size)) else none
 |_=>none
def lenOf(isStr:Bool)(s:Aa):Option Aa:=
 match s with
 | .sl _ AD=>if isStr then none else some (.int .i64 AD.length)
 | .CE _ _ n _=>if isStr then none else some (.int .i64 n)
 | .slnil=>if isStr then none else some (.int .i64 0)
 | .Gb _=>if isStr then none else some (.int .i64 0)
 | .str s=>if isStr then some (.int .i64 s.length) else none
 |_=>none
def HP(size bytes:Nat)(s x:Aa):Option Aa:=
 match x with
 | .slnil=>DI size bytes s []
 | .Gb z=>if z=size then DI size bytes s [] else none
 | .sl z AD=>if z=size then DI size bytes s AD else none
 | .str x=>if size=1 then DI size bytes s (Cd x) else none
 |_=>none
def JB(size:Nat)(isStr lo hi:Bool)(s:Aa)(as:List Aa):Option Aa:=
 match s with
 | .str s=>if isStr then(DX lo hi s.length as).map λ(l,h)=> .str ((s.take h).drop l) else none
 | .sl z AD=>if isStr=false/\z=size then(DX lo hi AD.length as).map λ(l,h)=> .sl z ((AD.take h).drop l) else none
 | .CE id off n z=>if isStr=false/\z=size then(DX lo hi n as).bind λ(l,h)=>if l<n then some (.CE id (off+l*z) (h-l) z) else some (.sl z []) else none
 | .slnil=>if isStr then none else(DX lo hi 0 as).map λ_=> .slnil
 |_=>none
def kH:Aa->Option Aa
 | .ptr (some p)=>some (.ptr (some p))
 | .CG cs=>some (.CG cs)
 | .func (.func f) a b=>some (.func (.func f) a b)
 |_=>none
def Wj:Aa->Option Aa
 | .sl 1 AD=>(MM AD).map .str
 | .slnil=>some (.str [])
 |_=>none
def AE(p:RM)(args:List Aa):Option Aa:=
 match p with
 | .int op=>match args with
  |[.int k a,.int l b]=>uS op k a l b
  |_=>none
 | .str op=>match args with
  |[.str a,.str b]=>kG op a b
  |_=>none
 | .beq neg=>match args with
  |[.bool a,.bool b]=>some (.bool ((a==b) != neg))
  |_=>none
 | .geq neg ks=>match args with
  |[.agg a,.agg b]=>(D5 ks a b).map λe=> .bool (e != neg)
  |_=>none
 | .peq neg=>match args with
  |[a,b]=>(uT a b).map λe=> .bool (e != neg)
  |_=>none
 | .Gy neg k=>match args with
  |[a,b]=>(uU k a b).map λe=> .bool (e != neg)
  |_=>none
 | .un op=>match args with
  |[v]=>aAu op v
  |_=>none
 | .conv k=>match args with
  |[.int _ n]=>some (.int k (k.wrap n))
  |_=>none
 | .i2s=>match args with
  |[.int _ n]=>some (.str (Utf8.encode n).data.toList)
  |_=>none
 | .pick=>match args with
  |[.bool c,a,b]=>some (if c then a else b)
  |_=>none
 | .part off n=>match args with
  |[.agg cs]=>Ft cs off n
  |_=>none
 | .aAt len size n=>match args with
  |[.agg cs,.int _ i]=>(L8 i len).bind λi=>Ft cs (i*size) n
  |_=>none
 | .YV=>match args with
  |[.str s,.int _ i]=>if 0<=i then(s[i.toNat]?).map λb=> .int .u8 b.toNat else none
  |_=>none
 | .K8 off=>match args with
  |[p]=>Wi p off
  |_=>none
 | .E2 size=>match args with
  |[s,.int _ i]=>elemOf size s i
  |_=>none
 | .T2 len size=>match args with
  |[p,.int _ i]=>(L8 i len).bind λi=>Wi p (i*size)
  |_=>none
 | .len isStr=>match args with
  |[s]=>lenOf isStr s
  |_=>none
 | .append size bytes=>match args with
  |[s,x]=>HP size bytes s x
  |_=>none
 | .KA size isStr lo hi=>match args with
  |s::as=>JB size isStr lo hi s as
  |_=>none
 | .ext i=>match args with
  |[.tuple vs]=>vs[i]?
  |_=>none
 | .JI=>match args with
  |[v]=>kH v
  |_=>none
 | .Dh size=>if args.all (λa=>a.cells.length==size)&&decide (args.length*size<=16777216) then some (.sl size (args.map (·.cells))) else none
 | .Gb size=>if args.isEmpty then some (.Gb size) else none
 | .Cm zero places=>if places.length=args.length then(AP zero (places.zip args)).map .agg else none
 | .Lw isMax=>match args with
  |[.int k a,.int l b]=>if k=l then some (.int k (if isMax then(if b>a then b else a) else(if b<a then b else a))) else none
  |_=>none
 | .Wh=>match args with
  |[v]=>Wj v
  |_=>none
 | .s2b=>match args with
  |[.str s]=>if s.length<=AM then some (.sl 1 (Cd s)) else none
  |_=>none
inductive DQ where
 |normal
 |exit (id:Nat)
 |ret
 deriving DecidableEq,Inhabited
inductive IT where
 |ret (x:DQ) (vs:List Aa)
 |fail
 |op (o:RM) (args:List Aa) (k:Aa->IT)
 |cells (n:Nat) (v:Aa) (k:List Aa->IT)
 |Gc (c:Aa) (t e:IT)
 |load (n:Option Nat) (p:Aa) (k:Aa->IT)
 |store (n:Nat) (p v:Aa) (k:IT)
 |alloc (n:Nat) (v:Aa) (k:Aa->IT)
 |call (f:FuncId) (args:List Aa) (k:Aa->IT)
 |Ja (fn:Aa) (args:List Aa) (k:Aa->IT)
 |BV (f:FuncId) (args:List Aa) (k:Aa->IT)
 |loop (key:Nat) (init:List Aa) (body:List Aa->IT) (k:DQ->List Aa->IT)
 |N0 (key:Nat) (t:IT) (k:DQ->List Aa->IT)
 |same (a b:Aa) (k:IT)
 |O6 (k:Aa->IT)
 |Kv (m key v:Aa) (k:IT)
 |L9 (zero:Aa) (ok:Bool) (m key:Aa) (k:Aa->IT)
 |make (size bytes:Nat) (zero:List Aa) (len cap:Aa) (k:Aa->IT)
 |K9 (size bytes:Nat) (s x:Aa) (k:Aa->IT)
 |Fb (s:Aa) (k:Aa->IT)
 |O3 (v:Aa) (k:Aa->IT)
 |O7 (off:Nat) (p:Aa) (k:IT)
 |IP (size bytes:Nat) (s x:Aa) (k:Aa->IT)
 |Gx (size bytes:Nat) (s x:Aa) (k:Aa->IT)
 |mem (o:kF) (args:List Aa) (k:Aa->IT)
 |uV (f:FuncId) (args:List Aa) (k:Aa->IT)
 deriving Inhabited
def Aa.MI:Aa->Bool
 | .bool _| .int _ _| .str _=>true
 |_=>false
def Bd(h:Ah)(n:Option Nat):Aa->Option Aa
 | .CG cs=>Ft cs 0 n
 | .ptr (some (id,off))=>match h[id]? with
  |some (.cells cs)=>Ft cs off n
  |_=>none
 |_=>none
def Cx(h:Ah)(n:Nat)(p v:Aa):Option Ah:=
 match p with
 | .ptr (some (id,off))=>match h[id]? with
  |some (.cells cs)=>if v.cells.length=n/\off+n<=cs.length then some (h.set id (.cells (cs.take off++v.cells++cs.drop (off+n)))) else none
  |_=>none
 |_=>none
def Wk(h:Ah)(n:Nat)(v:Aa):Option (Ah×Aa):=
 if v.cells.length=n then some (h++[.cells v.cells],.ptr (some (h.length,0))) else none
def Wl(s:Ao):List (Aa×Aa)->Option (Option Aa)
 |[]=>some none
 |(.str t,v)::es=>if s=t then some (some v) else Wl s es
 |_=>none
def OT(s:Ao)(v:Aa):List (Aa×Aa)->Option (List (Aa×Aa))
 |[]=>some [(.str s,v)]
 |(.str t,v')::es=>if s=t then some ((.str s,v)::es) else(OT s v es).map λes=>(.str t,v')::es
 |_=>none
def T3(h:Ah)(m k v:Aa):Option Ah:=
 match m,k with
 | .map (some id),.str s=>match h[id]? with
  |some (.map es)=>(OT s v es).map λes=>h.set id (.map es)
  |_=>none
 |_,_=>none
def Wm(h:Ah)(m k:Aa):Option (Option Aa):=
 match m,k with
 | .map none,.str _=>some none
 | .map (some id),.str s=>match h[id]? with
  |some (.map es)=>Wl s es
  |_=>none
 |_,_=>none
def T4(h:Ah)(zero:Aa)(ok:Bool)(m k:Aa):Option Aa:=
 (Wm h m k).map λr=>match r with
  |some v=>if ok then .tuple [v,.bool true] else v
  |none=>if ok then .tuple [zero,.bool false] else zero
def RO(h:Ah)(size bytes:Nat)(zero:List Aa):Aa->Aa->Option (Ah×Aa)
 | .int .i64 n,.int .i64 c=>if 0<=n/\n<=c/\c.toNat*bytes<=AM/\zero.length=size then
  some (h++[.cells (List.replicate c.toNat zero).flatten],.CE h.length 0 n.toNat size) else none
 |_,_=>none
def O8(size:Nat):Aa->Bool
 | .slnil=>true
 | .Gb z=>z==size
 | .sl z []=>z==size
 |_=>false
def KF(h:Ah)(size bytes:Nat)(s:Aa):Aa->Option (Ah×Aa)
 | .sl z AD=>if O8 size s then(match AD with
   |[]=>some (h,s)
   |AD=>if z=size/\AD.length*bytes<=AM then some (h++[.cells AD.flatten],.CE h.length 0 AD.length size) else none)
  else none
 | .slnil=>if O8 size s then some (h,s) else none
 | .Gb z=>if O8 size s&&z==size then some (h,s) else none
 |_=>none
def IQ(h:Ah):Aa->Option (Ah×Aa)
 | .str s=>if s.length<=AM then some (h++[.cells (s.map λb=> .int .u8 b.toNat)],.CE h.length 0 s.length 1) else none
 |_=>none
def CA(cs:List Aa)(z:Nat):Nat->Nat->List (List Aa)
 |_,0=>[]
 |off,n+1=>(cs.drop off).take z::CA cs z (off+z) n
def Kw(h:Ah):Aa->Option (Ah×Aa)
 | .CE id off n z=>match h[id]? with
  |some (.cells cs)=>if off+n*z<=cs.length then some (h.set id .CO,.sl z (CA cs z off n)) else none
  |_=>none
 |v=>some (h,v)
def Ma(h:Ah)(off:Nat)(p:Aa):Option Ah:=
 match p with
 | .ptr none=>some h
 | .ptr (some (id,o))=>match h[id]? with
  |some (.cells cs)=>match cs[o+off]? with
   |some v=>(Kw h v).bind λ(h',v')=>match h'[id]? with
    |some (.cells GX)=>some (h'.set id (.cells (GX.set (o+off) v')))
    |_=>none
   |none=>none
  |_=>none
 |_=>none
def GY(h:Ah)(size:Nat):Aa->Option (List (List Aa))
 | .slnil=>some []
 | .Gb z=>if z=size then some [] else none
 | .sl z AD=>if z=size then some AD else none
 | .str s=>if size=1 then some (Cd s) else none
 | .CE id off n z=>if z=size then match h[id]? with
   |some (.cells cs)=>if off+n*z<=cs.length then some (CA cs z off n) else none
   |_=>none
  else none
 |_=>none
def F8(h:Ah)(size bytes:Nat)(s x:Aa):Option (Ah×Aa):=
 match GY h size x with
 |none=>none
 |some []=>match s with
  | .slnil=>some (h,s)
  | .Gb z=>if z=size then some (h,s) else none
  | .CE _ _ _ z=>if z=size then some (h,s) else none
  |_=>none
 |some AD=>match s with
  | .slnil=>if AD.length*bytes<=AM then some (h++[.cells AD.flatten],.CE h.length 0 AD.length size) else none
  | .Gb z=>if z=size/\AD.length*bytes<=AM then some (h++[.cells AD.flatten],.CE h.length 0 AD.length size) else none
  | .CE id off n z=>match h[id]? with
   |some (.cells cs)=>if z=size then
     (if off+(n+AD.length)*z<=cs.length then some (h.set id (.cells (cs.take (off+n*z)++AD.flatten++cs.drop (off+(n+AD.length)*z))),.CE id off (n+AD.length) z)
     else if off=0/\n*z<=cs.length/\(n+AD.length)*bytes<=AM then some (h.set id .CO++[.cells (cs.take (n*z)++AD.flatten)],.CE h.length 0 (n+AD.length) z) else none)
    else none
   |_=>none
  |_=>none
def QF(h:Ah)(size bytes:Nat)(s x:Aa):Option Aa:=(GY h size x).bind (DI size bytes s)
def uW(h:Ah)(size:Nat)(d x:Aa):Option (Ah×Aa):=
 match GY h size x with
 |none=>none
 |some AD=>match d with
  | .slnil=>if AD.length=0 then some (h,.int .i64 0) else none
  | .CE id off n z=>match h[id]? with
   |some (.cells cs)=>if z=size/\AD.length<=n/\off+n*z<=cs.length then some (h.set id (.cells (cs.take off++AD.flatten++cs.drop (off+AD.length*z))),.int .i64 AD.length) else none
   |_=>none
  |_=>none
def Wn(h:Ah)(size:Nat)(zero:List Aa):Aa->Option (Ah×Aa)
 | .slnil=>some (h,.bool true)
 | .CE id off n z=>match h[id]? with
  |some (.cells cs)=>if z=size/\zero.length=size/\off+n*z<=cs.length then some (h.set id (.cells (cs.take off++(List.replicate n zero).flatten++cs.drop (off+n*z))),.bool true) else none
  |_=>none
 |_=>none
def kI(h:Ah)(size:Nat)(lo hi:Bool)(s:Aa)(as:List Aa):Option (Ah×Aa):=
 match s with
 | .CE id off n z=>match h[id]? with
  |some (.cells cs)=>if z=size/\hi=true/\off<=cs.length then(DX lo hi ((cs.length-off)/z) as).bind λ(l,r)=>if l<(cs.length-off)/z then some (h,.CE id (off+l*z) (r-l) z) else none else none
  |_=>none
 |_=>none
def Wo(size:Nat):List Aa->Bool
 |[s,.int _ l,.int _ r,.int _ m]=>match s with
  | .CE _ _ n z=>z=size&&decide (0<=l)&&decide (l<=r)&&decide (r<=m)&&decide (m<=n)
  | .sl z AD=>z=size&&decide (0<=l)&&decide (l<=r)&&decide (r<=m)&&decide (m<=AD.length)
  |_=>false
 |_=>false
def Ly(k:Int):List (Aa×Aa)->Nat->Option (Option (Nat×Aa))
 |[],_=>some none
 |(.int .i64 t,v)::es,i=>if k=t then some (some (i,v)) else Ly k es (i+1)
 |_,_=>none
def pH(zero:Aa)(ok:Bool):Option (Nat×Aa)->Aa
 |some (_,v)=>if ok then .tuple [v,.bool true] else v
 |none=>if ok then .tuple [zero,.bool false] else zero
def uX(h:Ah)(zero:Aa)(ok:Bool)(m k:Aa):Option (Ah×Aa):=
 match m,k with
 | .map none,.int .i64 _=>some (h,pH zero ok none)
 | .map (some id),.int .i64 n=>match h[id]? with
  |some (.map es)=>(Ly n es 0).map λr=>(h,pH zero ok r)
  |_=>none
 |_,_=>none
def Vs(h:Ah)(zero m k:Aa):Option (Ah×Aa):=
 match m,k with
 | .map (some id),.int .i64 n=>match h[id]? with
  |some (.map es)=>(Ly n es 0).map λr=>match r with
   |some (i,v)=>(h,.tuple [v,.int .i64 i])
   |none=>(h.set id (.map (es++[(k,zero)])),.tuple [zero,.int .i64 es.length])
  |_=>none
 |_,_=>none
def Wp(k:Ao):List (Aa×Aa)->Nat->Option (Option (Nat×Aa))
 |[],_=>some none
 |(.str t,v)::es,i=>if k=t then some (some (i,v)) else Wp k es (i+1)
 |_,_=>none
def bJ(h:Ah)(zero m k:Aa):Option (Ah×Aa):=
 match m,k with
 | .map (some id),.str n=>match h[id]? with
  |some (.map es)=>(Wp n es 0).map λr=>match r with
   |some (i,v)=>(h,.tuple [v,.int .i64 i])
   |none=>(h.set id (.map (es++[(k,zero)])),.tuple [zero,.int .i64 es.length])
  |_=>none
 |_,_=>none
def Vt(h:Ah)(m i v:Aa):Option (Ah×Aa):=
 match m,i with
 | .map (some id),.int .i64 n=>match h[id]? with
  |some (.map es)=>if 0<=n then match es[n.toNat]? with
   |some (k,_)=>some (h.set id (.map (es.set n.toNat (k,v))),.bool true)
   |none=>none
   else none
  |_=>none
 |_,_=>none
def jz(h:Ah)(m k v:Aa):Option (Ah×Aa):=
 match m,k with
 | .map (some id),.int .i64 n=>match h[id]? with
  |some (.map es)=>match Ly n es 0 with
   |some none=>some (h.set id (.map (es++[(.int .i64 n,v)])),.bool true)
   |_=>none
  |_=>none
 |_,_=>none
def P4(h:Ah):List Aa->Option (Ah×Aa)
 |[.slnil,.int .i64 i,.sl 1 [[.int .i64 x]]]=>if i=0 then some (h++[.cells [.int .i64 x]],.CE h.length 0 1 1) else none
 |[.CE id 0 n 1,.int .i64 i,.sl 1 [[.int .i64 x]]]=>match h[id]? with
  |some (.cells cs)=>if 0<=i/\i.toNat<=n/\n<=cs.length/\(n+1)*8<=AM then some (h.set id .CO++[.cells (cs.take i.toNat++[.int .i64 x]++(cs.take n).drop i.toNat)],.CE h.length 0 (n+1) 1) else none
  |_=>none
 |_=>none
def E4(o:kF)(h:Ah)(args:List Aa):Option (Ah×Aa):=
 match o with
 | .copy size=>match args with
  |[d,x]=>uW h size d x
  |_=>none
 | .clear size zero=>match args with
  |[s]=>Wn h size zero s
  |_=>none
 | .bc size lo hi=>match args with
  |s::as=>kI h size lo hi s as
  |_=>none
 | .pF size=>if Wo size args then some (h,.bool true) else none
 | .aDT t=>match args with
  |[v]=>some (h,.iface t v)
  |_=>none
 | .jx zero ok=>match args with
  |[m,k]=>uX h zero ok m k
  |_=>none
 | .Te zero=>match args with
  |[m,k]=>Vs h zero m k
  |_=>none
 | .pG zero=>match args with
  |[m,k]=>bJ h zero m k
  |_=>none
 | .O4=>match args with
  |[m,i,v]=>Vt h m i v
  |_=>none
 | .xm=>match args with
  |[m,k,v]=>jz h m k v
  |_=>none
 | .jy=>P4 h args
 | .Q5 g=>g h args
def Ez(f:FuncId):FuncId:=if f<=99999 then f else f%100000
def Di:Aa->List Aa->Option (FuncId×List Aa)
 | .func (.func f) first captured,args=>if f<=99999 then some (f,first++args++captured) else none
 |_,_=>none
abbrev J6:=DQ×List Aa×Ah
def IT.step(fn:FuncId->List Aa->IT)(rec:IT->Ah->Option J6):IT->Ah->Option J6
 | .ret x vs,h=>some (x,vs,h)
 | .fail,_=>none
 | .op o args k,h=>match AE o args with
  |some v=>IT.step fn rec (k v) h
  |none=>none
 | .cells n v k,h=>if v.cells.length=n then IT.step fn rec (k v.cells) h else none
 | .Gc c t e,h=>match c with
  | .bool true=>IT.step fn rec t h
  | .bool false=>IT.step fn rec e h
  |_=>none
 | .load n p k,h=>match Bd h n p with
  |some v=>IT.step fn rec (k v) h
  |none=>none
 | .store n p v k,h=>match Cx h n p v with
  |some h'=>IT.step fn rec k h'
  |none=>none
 | .alloc n v k,h=>match Wk h n v with
  |some (h',p)=>IT.step fn rec (k p) h'
  |none=>none
 | .call f args k,h=>match rec (fn f args) h with
  |some (.ret,[r],h')=>IT.step fn rec (k r) h'
  |_=>none
 | .Ja g args k,h=>match Di g args with
  |some (f,args)=>match rec (fn f args) h with
   |some (.ret,[r],h')=>IT.step fn rec (k r) h'
   |_=>none
  |none=>none
 | .BV f args k,h=>if args.all Aa.MI then match rec (fn f args) [] with
   |some (.ret,[r],_)=>if r.MI then IT.step fn rec (k r) h else none
   |_=>none
  else none
 | .loop key init body k,h=>match IT.step fn rec (body init) h with
  |some (.normal,vs,h')=>rec (.loop key vs body k) h'
  |some (x,vs,h')=>IT.step fn rec (k x vs) h'
  |none=>none
 | .N0 _ t k,h=>match IT.step fn rec t h with
  |some (x,vs,h')=>IT.step fn rec (k x vs) h'
  |none=>none
 | .same a b k,h=>if Aa.beq a b then IT.step fn rec k h else none
 | .O6 k,h=>IT.step fn rec (k (.map (some h.length))) (h++[.map []])
 | .Kv m key v k,h=>match T3 h m key v with
  |some h'=>IT.step fn rec k h'
  |none=>none
 | .L9 zero ok m key k,h=>match T4 h zero ok m key with
  |some v=>IT.step fn rec (k v) h
  |none=>none
 | .make size bytes zero len cap k,h=>match RO h size bytes zero len cap with
  |some (h',v)=>IT.step fn rec (k v) h'
  |none=>none
 | .K9 size bytes s x k,h=>match KF h size bytes s x with
  |some (h',v)=>IT.step fn rec (k v) h'
  |none=>none
 | .Fb s k,h=>match IQ h s with
  |some (h',v)=>IT.step fn rec (k v) h'
  |none=>none
 | .O3 v k,h=>match Kw h v with
  |some (h',v')=>IT.step fn rec (k v') h'
  |none=>none
 | .O7 off p k,h=>match Ma h off p with
  |some h'=>IT.step fn rec k h'
  |none=>none
 | .IP size bytes s x k,h=>match F8 h size bytes s x with
  |some (h',v)=>IT.step fn rec (k v) h'
  |none=>none
 | .Gx size bytes s x k,h=>match QF h size bytes s x with
  |some v=>IT.step fn rec (k v) h
  |none=>none
 | .mem o args k,h=>match E4 o h args with
  |some (h',v)=>IT.step fn rec (k v) h'
  |none=>none
 | .uV f args k,h=>match rec (fn f args) [] with
  |some (.ret,[r],_)=>if r.MI then IT.step fn rec (k r) h else none
  |_=>none
def IT.run(fn:FuncId->List Aa->IT):Nat->IT->Ah->Option J6
 |0=>λ_ _=>none
 |n+1=>IT.step fn (IT.run fn n)
end Go.Am
end
section
namespace Go.Am
inductive Sh where
 |val
 |Bt
 |box (n:Nat) (Bt:List Nat)
 deriving Inhabited
inductive uY where
 |O9|heap
 deriving DecidableEq,Inhabited
structure FW where
 P:Program
 aAv:FuncId->Nat->List (Nat×Sh)
 Ĺ:FuncId->Nat->Option (List (Nat×Sh))
 ĺ:FuncId->Nat->Option (List (Nat×Sh))
 kind:FuncId->Nat->uY
 Jh:FuncId->Bool
 Ļ:FuncId->Bool
 bd:FuncId->Nat->Bool
 Wq:FuncId->Nat->Bool
 j_:FuncId->Bool
 ka:FuncId->List (Nat×Nat)
 GZ:Nat->Option (List Aa)
 aAw:FuncId->Option (List Aa->IT)
 alt:FuncId->FuncId->FuncId
 MN:FuncId->Bool
inductive EJ where
 |pure (ws:List (Nat×En))
 |op (p:RM) (args:List Aa) (dst:Option Nat) (Bt:Bool) (DL:Option (Nat×Aa))
 |box (n:Nat) (v:Aa) (dst:Nat)
 |closure (fn:Fn) (first captured:List Aa) (froze:List (Nat×List Aa)) (dst:Nat)
 |M6 (s off n:Nat) (v:Aa) (Bt:Bool) (DL:Option (Nat×Aa)) (ver:Nat) (cells:List Aa) (owned:List Nat)
 |load (n:Option Nat) (p:Aa) (dst:Option Nat)
 |store (n:Nat) (p v:Aa)
 |alloc (n:Nat) (v:Aa) (dst:Option Nat)
 |call (f:FuncId) (args:List Aa) (dst:Option Nat)
 |Ja (g:Aa) (args:List Aa) (dst:Option Nat)
 |BV (f:FuncId) (args:List Aa) (dst:Option Nat)
 |O6 (dst:Option Nat)
 |Kv (m k v:Aa)
 |L9 (zero:Aa) (ok:Bool) (m k:Aa) (dst:Option Nat)
 |make (size bytes:Nat) (zero:List Aa) (len cap:Aa) (dst:Option Nat)
 |K9 (size bytes:Nat) (s x:Aa) (dst:Option Nat) (DL:Option (Nat×Aa))
 |IP (size bytes:Nat) (s x:Aa) (dst:Option Nat)
 |Gx (size bytes:Nat) (s x:Aa) (dst:Option Nat) (DL:Option (Nat×Aa))
 |Fb (s:Aa) (dst:Option Nat)
 |Wh (v:Aa) (dst:Option Nat)
 |mem (o:kF) (args:List Aa) (dst:Option Nat)
def B3(P:Program)(t:TypeId):Option Nat:=(P.info? t).map (·.size)
def J9(P:Program)(t:TypeId):Option Nat:=(P.info? t).map (·.bytes)
def Fp(P:Program)(t:TypeId):Option (Option Nat):=
 match P.underlying t with
 |some (.struct _)|some (.array _ _)=>(B3 P t).map some
 |some _=>some none
 |none=>none
def Ha(P:Program)(t:TypeId):Option Aa:=((P.info? t).bind (·.zero)).bind KV
def Ws(rec:TypeId->Option (List FK)):List Field->Nat->Option (List FK)
 |[],_=>some []
 |f::fs,off=>if f.name≠ "_"/\f.offset=off then match rec f.type with
   |some ks=>(Ws rec fs (off+ks.length)).map (ks++·)
   |none=>none
  else none
def Pb(P:Program):Nat->TypeId->Option (List FK)
 |0,_=>none
 |d+1,t=>
  let one (k:FK):Option (List FK):=if B3 P t=some 1 then some [k] else none
  match P.underlying t with
  |some .bool=>one .b
  |some (.int _)=>one .i
  |some .string=>one .s
  |some (.struct fs)=>match Ws (Pb P d) fs.toList 0 with
   |some ks=>if B3 P t=some ks.length/\P.stoodInHeld t=false then some ks else none
   |none=>none
  |_=>none
def It(P:Program)(s:TypeId)(f:Nat):Option (Nat×Option Nat):=
 match P.underlying s with
 |some (.struct fs)=>match fs[f]? with
  |some fd=>match B3 P fd.type,Fp P fd.type with
   |some (_+1),some sh=>some (fd.offset,sh)
   |_,_=>none
  |none=>none
 |_=>none
def Ec(C:FW)(U:BR):Operand->Option En
 | .tmp t=>some (U.at t)
 | .const (.bool b)=>some (.OS b)
 | .const (.slice none 0 0)=>some (.Bt .slnil)
 | .const v=>(KV v).map .val
 | .global g=>(C.GZ g).map λcs=> .val (.CG cs)
 | .func f=>some (.val (.func (.func f) [] []))
def E5(C:FW)(U:BR)(x:Operand):Option Aa:=(Ec C U x).bind En.Hq
def Bx(C:FW)(U:BR):List Operand->Option (List Aa)
 |[]=>some []
 |x::xs=>match E5 C U x,Bx C U xs with
  |some v,some vs=>some (v::vs)
  |_,_=>none
def ke(ops:List Oper)(d:Nat):Bool:=
 ops.any λo=>match o.op with
  | .call c=>(match c.callee with| .builtin .append=>true|_=>false)&&(match(c.args[0]?:Option Operand) with|some (.tmp t)=>t==d|_=>false)
  |_=>false
def Iu:En->Option En
 | .val v=>some (.val v)
 | .OS b=>some (.OS b)
 | .Bt v=>some (.val v)
 | .Fk s o=>some (.Fk s o)
 |_=>none
def RP(x:Operand)(v:Aa):List (Nat×En):=
 match x with
 | .tmp s=>[(s,.val v)]
 |_=>[]
def KG(C:FW)(U:BR)(x:Operand)(d:Nat)(take:Bool):Option EJ:=
 match x,Ec C U x with
 | .tmp s,some (.box _ _ _)=>some (.pure [(d,.Fk s 0)])
 | .const _,some sl=>some (.pure [(d,sl)])
 |x,some (.Bt v)=>if take then some (.pure (RP x v++[(d,.Bt v)])) else(Iu (.Bt v)).map λs=> .pure [(d,s)]
 |_,some s=>(Iu s).map λs=> .pure [(d,s)]
 |_,none=>none
def Wt(cs:List Aa):List Nat:=(List.range cs.length).filter λi=>match cs.getD i .nilIface with| .slnil=>true|_=>false
def M7(U:BR)(ds:List Nat):Bool:=U.all λs=>match s with| .Fk s _=> !ds.contains s|_=>true
def BR.drop(U:BR)(ds:List Nat):BR:=match ds with|[]=>U|ds=>U.map λs=>match s with| .Fk s o=>if ds.contains s then .undef else .Fk s o|s=>s
def T5(C:FW)(fid:FuncId)(t:TypeId)(v:Aa)(d:Nat):Option EJ:=
 match B3 C.P t with
 |none=>none
 |some n=>if n=0 then none else match C.kind fid d with
  | .O9=>some (.box n v d)
  | .heap=>some (.alloc n v (some d))
inductive aAx where
 |O9 (s off ver:Nat) (cells:List Aa) (Bt:List Nat)
 |ptr (p:Aa)
def Gj(C:FW)(U:BR)(x:Operand):Option aAx:=
 match x,Ec C U x with
 | .tmp s,some (.box ver cs ow)=>some (.O9 s 0 ver cs ow)
 |_,some (.Fk s o)=>match U.at s with
  | .box ver cs ow=>some (.O9 s o ver cs ow)
  |_=>none
 |_,some s=>s.Hq.map .ptr
 |_,none=>none
def Dj(U:BR):Operand->Option (Nat×Aa)
 | .tmp s=>match U.at s with
  | .Bt v=>some (s,v)
  |_=>none
 |_=>none
def La(C:FW)(U:BR)(x:Operand):Bool:=match Ec C U x with|some (.Bt _)=>true|_=>false
def LA(C:FW)(U:BR)(t:TypeId)(x:Operand)(d:Nat)(take:Bool):Option EJ:=
 match Fp C.P t,Gj C U x with
 |some n,some (.ptr p)=>some (.load n p (some d))
 |some none,some (.O9 s o ver cs ow)=>
  if o<cs.length then
   let v:=cs.getD o .nilIface
   if ow.contains o&& !(ow.erase o).contains o&&take then some (.pure [(s,.box (ver+1) cs (ow.erase o)),(d,.Bt v)])
   else some (.pure [(d,.val v)])
  else none
 |some (some n),some (.O9 _ o _ cs _)=>if o+n<=cs.length then some (.pure [(d,.val (.agg ((cs.drop o).take n)))]) else none
 |_,_=>none
def JC(C:FW)(U:BR)(t:TypeId)(x y:Operand):Option EJ:=
 match B3 C.P t,Fp C.P t,Gj C U x,E5 C U y with
 |some (n+1),_,some (.ptr p),some v=>some (.store (n+1) p v)
 |some (n+1),some sh,some (.O9 s o ver cs ow),some v=>
  if o+(n+1)<=cs.length then
   let Bt:=sh.isNone&&La C U y
   some (.M6 s o (n+1) v Bt (if Bt then Dj U y else none) ver cs ow)
  else none
 |_,_,_,_=>none
def Tf(P:Program)(t:TypeId)(neg:Bool)(u:TypeDesc):Option RM:=
 match u with
 | .bool=>some (.beq neg)
 | .struct _=>if P.eqGuardType P.depth t=false then(Pb P 20 t).map (.geq neg) else none
 | .pointer e=>if(B3 P e).getD 0=0 then none else some (.peq neg)
 | .slice _=>some (.Gy neg .sl)
 | .func _ _ _=>some (.Gy neg .fn)
 | .map _ _=>some (.Gy neg .mp)
 |_=>none
def P5(P:Program)(op:BinOp)(t:TypeId):Option RM:=
 match P.underlying t with
 |some (.int _)=>some (.int op)
 |some .string=>some (.str op)
 |some u=>match op with
  | .eql=>Tf P t false u
  | .neq=>Tf P t true u
  |_=>none
 |none=>none
def Tg(p:RM)(dst:Option Nat):Option (List Aa)->Option EJ
 |some args=>some (.op p args dst false none)
 |none=>none
def Ka(P:Program)(t:TypeId):List (Nat×Operand)->Option (List (Nat×Nat))
 |[]=>some []
 |(i,_)::rest=>match P.underlying t with
  |some (.struct fs)=>match fs[i]? with
   |some f=>match B3 P f.type,Ka P t rest with
    |some n,some r=>some ((f.offset,n)::r)
    |_,_=>none
   |none=>none
  |some (.array len e)=>if i<len then match B3 P e,Ka P t rest with
    |some n,some r=>some ((i*n,n)::r)
    |_,_=>none
   else none
  |_=>none
def Mb(P:Program)(t:TypeId):Bool:=
 match P.info? t with
 |some i=>match i.zero with
  |some z=>z.cells.size==i.size
  |none=>false
 |none=>false
def Vu(P:Program)(t:TypeId):Bool:=
 match P.underlying t with
 |some (.struct fs)=>fs.toList.all λf=>(B3 P f.type).isSome
 |some (.array _ e)=>(B3 P e).isSome
 |_=>false
def Th(o:kF)(dst:Option Nat):Option (List Aa)->Option EJ
 |some args=>some (.mem o args dst)
 |none=>none
def Q6(C:FW)(fid:FuncId)(U:BR)(c:Call)(dst:Option Nat):Option EJ:=
 match c.callee with
 | .builtin .len=>match c.argTypes[0]? with
  |some t=>match C.P.underlying t with
   |some .string=>Tg (.len true) dst (Bx C U c.args.toList)
   |some (.slice _)=>Tg (.len false) dst (Bx C U c.args.toList)
   |_=>none
  |none=>none
 | .builtin .append=>match c.argTypes[0]?,c.argTypes[1]?,c.args.toList with
  |some t,some t',[s,x]=>match C.P.underlying t,C.P.underlying t' with
   |some (.slice e),some (.slice _)|some (.slice e),some .string=>match B3 C.P e,J9 C.P e with
    |some (n+1),some (b+1)=>if Mb C.P e then match Bx C U [s,x] with
      |some [v,u]=>if La C U s then
        (if(dst.map (C.bd fid)).getD false then some (.K9 (n+1) (b+1) v u dst (Dj U s))
        else if(dst.map (C.Wq fid)).getD false then some (.Gx (n+1) (b+1) v u dst (Dj U s))
        else some (.op (.append (n+1) (b+1)) [v,u] dst true (Dj U s)))
       else if(dst.map (C.bd fid)).getD false then some (.IP (n+1) (b+1) v u dst) else none
      |_=>none
     else none
    |_,_=>none
   |_,_=>none
  |_,_,_=>none
 | .builtin .copy=>match c.argTypes[0]?,c.argTypes[1]?,c.args.toList with
  |some t,some t',[s,x]=>match C.P.underlying t,C.P.underlying t' with
   |some (.slice e),some (.slice _)|some (.slice e),some .string=>match B3 C.P e with
    |some (n+1)=>Th (.copy (n+1)) dst (Bx C U [s,x])
    |_=>none
   |_,_=>none
  |_,_,_=>none
 | .builtin .clear=>match c.argTypes[0]?,c.args.toList with
  |some t,[s]=>match C.P.underlying t with
   |some (.slice e)=>match B3 C.P e,Ha C.P e with
    |some (n+1),some z=>Th (.clear (n+1) z.cells) dst (Bx C U [s])
    |_,_=>none
   |_=>none
  |_,_=>none
 | .builtin .max=>if c.args.size=2 then Tg (.Lw true) dst (Bx C U c.args.toList) else none
 | .builtin .min=>if c.args.size=2 then Tg (.Lw false) dst (Bx C U c.args.toList) else none
 | .value (.func f)=>if C.MN f then(match c.args.toList with
  |[s,i,v]=>if La C U v then Th .jy dst (Bx C U [s,i,v]) else none
  |_=>none) else if Ez (C.alt fid f)=f then(Bx C U c.args.toList).map λargs=>if C.Ļ (C.alt fid f) then .BV (C.alt fid f) args dst else .call (C.alt fid f) args dst else none
 | .value g=>match E5 C U g,Bx C U c.args.toList with
  |some g,some args=>some (.Ja g args dst)
  |_,_=>none
 |_=>none
def Wu(C:FW)(src dst:TypeId):Option (Option RM):=
 match C.P.underlying src,C.P.underlying dst with
 |some (.int _),some (.int k)=>some (some (.conv k))
 |some (.int _),some .string=>some (some .i2s)
 |some .string,some .string=>some none
 |some (.slice e),some .string=>match C.P.underlying e with
  |some (.int .u8)=>some (some .Wh)
  |_=>none
 |some .string,some (.slice e)=>match C.P.underlying e,B3 C.P e,J9 C.P e with
  |some (.int .u8),some 1,some 1=>some (some .s2b)
  |_,_,_=>none
 |_,_=>none
def Gk(C:FW)(U:BR):List Operand->Option (List Aa×List (Nat×List Aa))
 |[]=>some ([],[])
 |x::xs=>match Gk C U xs with
  |none=>none
  |some (vs,fz)=>match x,Ec C U x with
   | .tmp s,some (.box _ cs _)=>if(fz.map (·.1)).contains s then none else some (.CG cs::vs,(s,cs)::fz)
   |_,some sl=>match sl.Hq with
    |some v=>some (v::vs,fz)
    |none=>none
   |_,none=>none
def Gl(C:FW)(fid:FuncId)(ops:List Oper)(U:BR)(o:Oper):Option EJ:=
 match o.op with
 | .move x=>match o.dst with
  |some d=>KG C U x d (ke ops d)
  |none=>none
 | .assign x=>match o.dst with
  |some d=>KG C U x d true
  |none=>none
 | .pick c a b=>match Ec C U c,o.dst with
  |some (.OS true),some d=>KG C U a d false
  |some (.OS false),some d=>KG C U b d false
  |_,dst=>Tg .pick dst (Bx C U [c,a,b])
 | .alloc t=>match o.dst,Ha C.P t with
  |some d,some z=>match C.kind fid d with
   | .O9=>if B3 C.P t=some z.cells.length/\z.cells≠[] then some (.pure [(d,.box 0 z.cells (Wt z.cells))]) else none
   |_=>T5 C fid t z d
  |_,_=>none
 | .box t x=>match o.dst,E5 C U x with
  |some d,some v=>T5 C fid t v d
  |_,_=>none
 | .build t parts=>match Ha C.P t,Ka C.P t parts.toList with
  |some z,some ps=>if Vu C.P t then Tg (.Cm z.cells ps) o.dst (Bx C U (parts.toList.map (·.2))) else none
  |_,_=>none
 | .buildSlice t len parts=>match C.P.underlying t with
  |some (.slice e)=>match B3 C.P e with
   |some (n+1)=>if parts.toList.map (·.1)=List.range len/\Mb C.P e=true then if len=0/\(o.dst.map (C.bd fid)).getD false=true then some (.op (.Gb (n+1)) [] o.dst true none) else(Bx C U (parts.toList.map (·.2))).map λargs=> .op (.Dh (n+1)) args o.dst true none else none
   |_=>none
  |_=>none
 | .load t x=>match o.dst with
  |some d=>LA C U t x d (ke ops d)
  |none=>none
 | .store t x y=>match o.dst with
  |none=>JC C U t x y
  |some _=>none
 | .nilCheck x=>match x,Ec C U x,o.dst with
  | .tmp s,some (.box _ _ _),some d=>some (.pure [(d,.Fk s 0)])
  |_,some (.Fk s k),some d=>some (.pure [(d,.Fk s k)])
  |x,_,dst=>Tg .JI dst (Bx C U [x])
 | .binOp op t x y _=>match P5 C.P op t with
  |some p=>Tg p o.dst (Bx C U [x,y])
  |none=>none
 | .unOp op _ x=>Tg (.un op) o.dst (Bx C U [x])
 | .convert src dst x=>match Wu C src dst with
  |some (some .Wh)=>(E5 C U x).map λv=> .Wh v o.dst
  |some (some .s2b)=>if(o.dst.map (C.bd fid)).getD false then(E5 C U x).map λv=> .Fb v o.dst else Tg .s2b o.dst (Bx C U [x])
  |some (some p)=>Tg p o.dst (Bx C U [x])
  |_=>none
 | .makeFunc fn first captured=>match o.dst,Bx C U first.toList,Gk C U captured.toList with
  |some d,some a,some (b,fz)=>some (.closure fn a b fz d)
  |_,_,_=>none
 | .makeMap _ none=>some (.O6 o.dst)
 | .makeSlice t l c=>match C.P.underlying t with
  |some (.slice e)=>match B3 C.P e,J9 C.P e,Ha C.P e,E5 C U l,E5 C U c with
   |some (n+1),some (b+1),some z,some l,some c=>some (.make (n+1) (b+1) z.cells l c o.dst)
   |_,_,_,_,_=>none
  |_=>none
 | .insert t m k v| .mapUpdate t m k v=>match C.P.underlying t with
  |some (.map kt _)=>match o.dst,C.P.underlying kt,Bx C U [m,k,v] with
   |none,some .string,some [m,k,v]=>some (.Kv m k v)
   |none,some (.int .i64),some [m,k,v]=>some (.mem .xm [m,k,v] none)
   |_,_,_=>none
  |_=>none
 | .lookup t m k ok=>match C.P.underlying t with
  |some (.map kt e)=>match C.P.underlying kt,Ha C.P e,Bx C U [m,k] with
   |some .string,some z,some [m,k]=>some (.L9 z ok m k o.dst)
   |some (.int .i64),some z,some [m,k]=>some (.mem (.jx z ok) [m,k] o.dst)
   |_,_,_=>none
  |_=>none
 | .slice t x (some lo) (some hi) (some mx)=>match C.P.underlying t with
  |some (.slice e)=>match B3 C.P e with
   |some (n+1)=>Th (.pF (n+1)) o.dst (Bx C U [x,lo,hi,mx])
   |_=>none
  |_=>none
 | .makeInterface t x=>match C.P.underlying t with
  |some (.interface _)=>none
  |some _=>Th (.aDT t) o.dst (Bx C U [x])
  |none=>none
 | .mapEntry t m k=>match C.P.underlying t with
  |some (.map kt e)=>match C.P.underlying kt,Ha C.P e with
   |some (.int .i64),some z=>Th (.Te z) o.dst (Bx C U [m,k])
   |some .string,some z=>Th (.pG z) o.dst (Bx C U [m,k])
   |_,_=>none
  |_=>none
 | .entryStore _ m s v=>match o.dst with
  |none=>Th .O4 none (Bx C U [m,s,v])
  |some _=>none
 | .slice t x lo hi none=>match C.P.underlying t with
  |some .string=>Tg (.KA 0 true lo.isSome hi.isSome) o.dst (Bx C U (x::(lo.toList++hi.toList)))
  |some (.slice e)=>match B3 C.P e with
   |some (n+1)=>if(o.dst.map (C.bd fid)).getD false then Th (.bc (n+1) lo.isSome hi.isSome) o.dst (Bx C U (x::(lo.toList++hi.toList)))
    else Tg (.KA (n+1) false lo.isSome hi.isSome) o.dst (Bx C U (x::(lo.toList++hi.toList)))
   |_=>none
  |_=>none
 | .fieldAddr t x f=>match It C.P t f,o.dst with
  |some (off,_),some d=>match x,Ec C U x with
   | .tmp s,some (.box _ _ _)=>some (.pure [(d,.Fk s off)])
   |_,some (.Fk s k)=>some (.pure [(d,.Fk s (k+off))])
   |x,_=>Tg (.K8 off) (some d) (Bx C U [x])
  |_,_=>none
 | .field t x f=>match It C.P t f with
  |some (off,sh)=>Tg (.part off sh) o.dst (Bx C U [x])
  |none=>none
 | .indexAddr t x i=>match C.P.underlying t with
  |some (.slice e)=>match B3 C.P e with
   |some (n+1)=>Tg (.E2 (n+1)) o.dst (Bx C U [x,i])
   |_=>none
  |some (.array len e)=>match B3 C.P e with
   |some (n+1)=>if len<=1 then none else Tg (.T2 len (n+1)) o.dst (Bx C U [x,i])
   |_=>none
  |_=>none
 | .index t x i=>match C.P.underlying t with
  |some .string=>Tg .YV o.dst (Bx C U [x,i])
  |some (.array len e)=>match B3 C.P e,Fp C.P e with
   |some (n+1),some sh=>Tg (.aAt len (n+1) sh) o.dst (Bx C U [x,i])
   |_,_=>none
  |_=>none
 | .extract x i=>Tg (.ext i) o.dst (Bx C U [x])
 | .call c=>Q6 C fid U c o.dst
 |_=>none
def BR.Eh(U:BR):List (Nat×En)->BR
 |[]=>U
 |(s,x)::ws=>BR.Eh (U.set s x) ws
def BR.put(U:BR)(dst:Option Nat)(x:En):BR:=
 match dst with
 |some d=>U.set d x
 |none=>U
def BR.DL(U:BR):Option (Nat×Aa)->BR
 |some (s,v)=>U.set s (.val v)
 |none=>U
def Wv(n:Nat)(cs:List Aa):List Aa:=(List.range n).map λi=>cs.getD i .nilIface
def Ww(cs:List Aa)(off n:Nat)(vs:List Aa):List Aa:=cs.take off++vs++cs.drop (off+n)
def RQ(owned:List Nat)(off n:Nat)(Bt:Bool):List Nat:=
 let rest:=owned.filter λo=> !(off<=o&&o<off+n)
 if Bt then off::rest else rest
def EJ.Mc(C:FW)(U:BR)(K:BR->IT):EJ->IT
 | .pure ws=>K (U.Eh ws)
 | .op p args dst Bt e=> .op p args λv=>K ((U.DL e).put dst (if Bt then .Bt v else .val v))
 | .box n v d=> .cells n v λcs=>K (U.set d (.box 0 (Wv n cs) []))
 | .closure fn a b fz d=>K ((U.Eh (fz.map λ(s,cs)=>(s,.val (.CG cs)))).set d (.val (.func fn a b)))
 | .M6 s off n v Bt e ver cells owned=> .cells n v λvs=>K ((U.DL e).set s (.box (ver+1) (Ww cells off n (Wv n vs)) (RQ owned off n Bt)))
 | .load n p dst=> .load n p λv=>K (U.put dst (.val v))
 | .store n p v=> .store n p v (K U)
 | .alloc n v dst=> .alloc n v λp=>K (U.put dst (.val p))
 | .call f args dst=> .call f args λr=>K (U.put dst (if C.Jh f then .Bt r else .val r))
 | .Ja g args dst=> .Ja g args λr=>K (U.put dst (.val r))
 | .BV f args dst=> .BV f args λr=>K (U.put dst (.val r))
 | .O6 dst=> .O6 λm=>K (U.put dst (.val m))
 | .Kv m k v=> .Kv m k v (K U)
 | .L9 z ok m k dst=> .L9 z ok m k λv=>K (U.put dst (.val v))
 | .make z b zero l c dst=> .make z b zero l c λv=>K (U.put dst (.val v))
 | .K9 z b s x dst e=> .K9 z b s x λv=>K ((U.DL e).put dst (.val v))
 | .IP z b s x dst=> .IP z b s x λv=>K (U.put dst (.val v))
 | .Gx z b s x dst e=> .Gx z b s x λv=>K ((U.DL e).put dst (.Bt v))
 | .Fb s dst=> .Fb s λv=>K (U.put dst (.val v))
 | .Wh v dst=> .O3 v λv=> .op .Wh [v] λu=>K (U.put dst (.val u))
 | .mem o args dst=> .mem o args λv=>K (U.put dst (if o.aDU then .undef else .val v))
def EJ.news:EJ->List Nat
 | .pure ws=>ws.filterMap λ(s,x)=>match x with| .box 0 _ _=>some s|_=>none
 | .box _ _ d=>[d]
 | .closure _ _ _ fz _=>fz.map (·.1)
 |_=>[]
inductive aDW where
 |Nl (run:Bool)
 |ask (pI:Nat) (v:Aa) (want:Bool)
 |bad
def IS(ops:List Oper)(U:BR)(o:Oper):aDW:=
 match o.guard with
 |none=> .Nl true
 |some (j,want)=>match(ops[j]?).bind (·.dst) with
  |some s=>match U.at s with
   | .OS b=> .Nl (b==want)
   | .val v=> .ask s v want
   | .skip=> .Nl false
   |_=> .bad
  |none=> .bad
def kf(C:FW)(fid:FuncId)(ops:List Oper)(U:BR)(o:Oper)(K:BR->IT):IT:=
 match Gl C fid ops U o with
 |some r=>r.Mc C (U.drop r.news) K
 |none=> .fail
def Ti(C:FW)(fid:FuncId)(ops:List Oper)(U:BR)(o:Oper)(K:BR->IT):IT:=
 match IS ops U o with
 | .Nl true=>kf C fid ops U o K
 | .Nl false=>K (U.put o.dst .skip)
 | .ask s v want=>
  let t:=if want then kf C fid ops (U.set s (.OS true)) o K else K (BR.put (U.set s (.OS true)) o.dst .skip)
  let e:=if want then K (BR.put (U.set s (.OS false)) o.dst .skip) else kf C fid ops (U.set s (.OS false)) o K
  .Gc v t e
 | .bad=> .fail
def Tj:FuncId->Bool
 |_=>false
def RR(C:FW)(U:BR)(o:Oper):List (Nat×List Aa):=
 match o.op with
 | .call c=>(match c.callee with
  | .value (.func f)=>if Tj f then(match Gk C U c.args.toList with|some (_,fz)=>fz|none=>[]) else[]
  |_=>[])
 |_=>[]
def aAz(C:FW)(U:BR)(o:Oper):BR:=(U.drop ((RR C U o).map (·.1))).Eh ((RR C U o).map λ(s,cs)=>(s,.val (.CG cs)))
def uZ(C:FW)(fid:FuncId)(ops:List Oper):List Oper->BR->(BR->IT)->IT
 |[],U,K=>K U
 |o::rest,U,K=>Ti C fid ops (aAz C U o) o λU=>uZ C fid ops rest U K
end Go.Am
end
section
namespace Go.Am
def Oper.UO(o:Oper):List Nat:=o.after.toList.filterMap λe=>if Region.binds .any e then some e.on else none
def bit(i:Nat):Nat:=2^i
def Lb(DW:List Nat):List Oper->List Nat
 |[]=>DW
 |o::rest=>Lb (DW++[(Oper.UO o).foldl (λm e=>m|||bit e|||DW.getD e 0) 0]) rest
def Wx(ops:List Oper):List Nat:=Lb [] ops
def Eo(an:List Nat)(i j:Nat):Bool:=(an.getD j 0).testBit i
def ļ(o:Oper):Bool:=
 match o.op with
 | .call c=>(match c.callee with| .builtin .copy| .builtin .clear=>true| .builtin _=>false|_=>true)
 | .store _ _ _| .insert _ _ _ _| .mapUpdate _ _ _ _| .makeMap _ _| .makeSlice _ _ _| .mapEntry _ _ _| .entryStore _ _ _ _=>true
 |_=>false
def Wy(all:List Oper)(DW:List Nat):List Oper->List Nat
 |[]=>DW
 |o::rest=>Wy all (DW++[(Oper.UO o).foldl (λm e=>Nat.max m (DW.getD e 0+(match all[e]? with|some x=>if ļ x then 1 else 0|none=>0))) 0]) rest
def xn(ops:List Oper):List Nat:=
 let st:=Wy ops [] ops
 let idx:=List.range ops.length
 let RF:=λi=>match ops[i]? with|some o=>ļ o|none=>false
 (List.range (ops.length+1)).flatMap λs=>(idx.filter λi=>st.getD i 0==s&& !RF i)++(idx.filter λi=>st.getD i 0==s&&RF i)
structure FP where
 rs:List Nat
 wf:List Nat
 hl:Bool
 RF:Bool
 news:List Nat
 lr:List Nat
 Tk:Bool
 deriving Inhabited
def Kb(xs:List Operand):List Nat:=xs.filterMap λ| .tmp t=>some t|_=>none
def N1(C:FW)(U:BR)(x:Operand):Option Nat:=
 match Gj C U x with
 |some (.O9 s _ _ _ _)=>some s
 |_=>none
def H5(C:FW)(U:BR)(o:Oper):List Nat:=
 match o.op with
 | .load _ x=>(N1 C U x).toList
 | .store _ x _=>(N1 C U x).toList
 | .makeFunc _ _ captured=>Kb captured.toList
 |_=>[]
def EJ.wf:EJ->List Nat
 | .pure ws=>ws.map (·.1)
 | .op _ _ dst _ a=>dst.toList++(a.map (·.1)).toList
 | .box _ _ d=>[d]
 | .closure _ _ _ fz d=>d::fz.map (·.1)
 | .M6 s _ _ _ _ a _ _ _=>s::(a.map (·.1)).toList
 | .load _ _ dst| .alloc _ _ dst| .call _ _ dst| .Ja _ _ dst| .BV _ _ dst| .O6 dst| .L9 _ _ _ _ dst| .make _ _ _ _ _ dst| .Fb _ dst| .Wh _ dst| .IP _ _ _ _ dst| .mem _ _ dst=>dst.toList
 | .K9 _ _ _ _ dst a| .Gx _ _ _ _ dst a=>dst.toList++(a.map (·.1)).toList
 | .store _ _ _| .Kv _ _ _=>[]
def EJ.hl:EJ->Bool
 | .load _ _ _| .L9 _ _ _ _ _=>true
 |_=>false
def EJ.RF:EJ->Bool
 | .store _ _ _| .alloc _ _ _| .call _ _ _| .Ja _ _ _| .O6 _| .Kv _ _ _| .make _ _ _ _ _ _| .K9 _ _ _ _ _ _| .Fb _ _| .Wh _ _| .IP _ _ _ _ _| .Gx _ _ _ _ _ _| .mem _ _ _=>true
 |_=>false
def FC(ops:List Oper)(o:Oper):List Nat:=
 match o.guard with
 |none=>[]
 |some (j,_)=>((ops[j]?).bind (·.dst)).toList
def Vv(xs:List En):List Nat:=xs.filterMap λ| .Fk t _=>some t|_=>none
def EJ.u9:EJ->List Nat
 | .pure ws=>Vv (ws.map (·.2))
 |_=>[]
def EJ.Tk(U:BR)(r:EJ):Bool:=
 M7 U r.news&&match r with
  | .load _ _ (some d)=>decide (d<U.length)
  | .load _ _ none| .L9 _ _ _ _ _| .closure _ _ _ (_::_) _=>false
  |_=>true
def UP(C:FW)(ops:List Oper)(U:BR)(o:Oper)(r:Option EJ):FP:=
 match r with
 |none=>{rs:=FC ops o,wf:=o.dst.toList,hl:=false,RF:=false,news:=[],lr:=Vv (o.dst.toList.map U.at),Tk:=true}
 |some r=>{rs:=FC ops o++Kb o.op.operands.toList++H5 C U o,wf:=r.wf++o.dst.toList,hl:=r.hl,RF:=r.RF,news:=r.news,lr:=Vv ((r.wf++o.dst.toList).map U.at)++r.u9,Tk:=r.Tk U}
def T6(a b:List Nat):Bool:=a.any λx=>b.contains x
def FP.apart(x y:FP):Bool:= !T6 x.wf (y.rs++y.wf)&& !T6 y.wf x.rs&& !T6 x.lr y.news&& !T6 y.lr x.news
def Q7(x y:FP):Bool:=x.Tk&&y.Tk&&x.apart y&& !(x.RF&&y.RF)&& !(x.RF&&y.hl)
def Wz(n:Nat)(an:List Nat)(a:List (Nat×FP)):Bool:=
 go a&&(List.range n).all (λi=>(a.map (·.1)).contains i)
where
 go:List (Nat×FP)->Bool
  |[]=>true
  |(i,f)::rest=>rest.all (λ(j,g)=>i != j&& !Eo an j i&&(Eo an i j||Q7 f g))&&go rest
structure KB where
 idx:Nat
 n:Option Nat
 p:Aa
 v:Aa
def RS(an:List Nat)(i:Nat):List KB->IT->IT
 |[],t=>t
 |f::fs,t=>if Eo an f.idx i then RS an i fs t else .load f.n f.p λv=> .same f.v v (RS an i fs t)
def MO(i:Nat)(r:EJ)(U:BR)(fl:List KB):List KB:=
 match r with
 | .load n p (some d)=>match U.at d with
  | .val v=>{idx:=i,n,p,v}::fl
  |_=>fl
 |_=>fl
def RT(ops:List Oper)(i:Nat):Bool:=ops.any λo=>match o.guard with|some (j,_)=>j==i|none=>false
def vA(d:Option Nat)(U:BR)(K:BR->IT):IT:=
 match d with
 |none=>K U
 |some d=>match U.at d with
  | .val v=> .Gc v (K (U.set d (.OS true))) (K (U.set d (.OS false)))
  |_=>K U
def Q8(C:FW)(fid:FuncId)(ops:List Oper)(an:List Nat):List Nat->List (Nat×FP)->List KB->BR->(BR->IT)->IT
 |[],a,_,U,K=>if Wz ops.length an a.reverse then K U else .fail
 |i::rest,a,fl,U,K=>
  match ops[i]? with
  |none=> .fail
  |some o=>match IS ops U o with
   | .Nl true=>match Gl C fid ops U o with
    |none=> .fail
    |some r=>r.Mc C (U.drop r.news) λc=>
     let next:=vA (if RT ops i then o.dst else none) c λb=>Q8 C fid ops an rest ((i,UP C ops U o (some r))::a) (MO i r c fl) b K
     if r.RF then RS an i fl next else next
   | .Nl false=>Q8 C fid ops an rest ((i,UP C ops U o none)::a) fl (U.put o.dst .skip) K
   |_=> .fail
def Ep(ops:List Oper)(o:Oper):List Nat:=
 o.dst.toList++match o.op with
  | .move (.tmp s)=>(match o.dst with|some d=>if ke ops d then[s] else[]|none=>[])
  | .assign (.tmp s)=>[s]
  | .store _ _ (.tmp s)=>[s]
  | .call c=>(match c.callee with| .builtin .append=>Kb c.args.toList| .value (.func f)=>if Tj f then Kb c.args.toList else[]|_=>[])
  | .makeFunc _ _ captured=>Kb captured.toList
  |_=>[]
def Db:Code->List Nat
 | .region _ ops _=>ops.toList.flatMap (Ep ops.toList)
 | .seq a b=>Db a++Db b
 | .cond _ a b=>Db a++Db b
 | .block _ b=>Db b
 | .loop b=>Db b
 | .scope b=>Db b
 |_=>[]
def Ce:Code->List Nat
 | .region _ ops _=>ops.toList.flatMap (FC ops.toList)
 | .seq a b=>Ce a++Ce b
 | .cond (.tmp s) a b=>s::(Ce a++Ce b)
 | .cond _ a b=>Ce a++Ce b
 | .block _ b=>Ce b
 | .loop b=>Ce b
 | .scope b=>Ce b
 |_=>[]
def BR.clear(U:BR):List Nat->BR
 |[]=>U
 |s::ss=>BR.clear (U.set s .undef) ss
def GL:Code->Option Nat
 | .region id _ _=>some id
 | .seq a b=>(GL a).orElse λ_=>GL b
 | .cond _ a b=>(GL a).orElse λ_=>GL b
 | .block _ b| .loop b| .scope b=>GL b
 |_=>none
def WA(U:BR):List (Nat×Sh)->Option (List Aa)
 |[]=>some []
 |(s,sh)::l=>
  let v:=match sh,U.at s with
   | .val,x=>x.Hq
   | .Bt,.Bt v=>some v
   | .box n ow,.box _ cs NX=>if cs.length=n/\ow.all (NX.contains ·) then some (.agg cs) else none
   |_,_=>none
  match v,WA U l with
  |some v,some vs=>some (v::vs)
  |_,_=>none
def ZC:En->Nat
 | .box ver _ _=>ver
 |_=>0
def JJ(vs:List Aa):List (Nat×Sh)->Nat->BR->(BR->IT)->IT
 |[],_,U,K=>K U
 |(s,.val)::l,i,U,K=>JJ vs l (i+1) (U.set s (.val (vs.getD i .nilIface))) K
 |(s,.Bt)::l,i,U,K=>JJ vs l (i+1) (U.set s (.Bt (vs.getD i .nilIface))) K
 |(s,.box n ow)::l,i,U,K=> .cells n (vs.getD i .nilIface) λcs=>JJ vs l (i+1) (U.set s (.box (ZC (U.at s)+1) (Wv n cs) ow)) K
def pJ(U:BR)(a:BR)(l:List (Nat×Sh)):Bool:=
 (List.range U.length).all λs=>match U.at s with
  | .box ver _ _=>(l.map (·.1)).contains s||(match a.at s with| .box Gm _ _=>Gm==ver|_=>false)
  | .Fk _ _=>(l.map (·.1)).contains s||(match a.at s with| .Fk _ _=>true|_=>false)
  |_=>true
def Tl(b:BR)(l:List (Nat×Sh))(x:DQ)(a:BR):IT:=
 if pJ b a l then match WA a l with
  |some vs=> .ret x vs
  |none=> .fail
 else .fail
def kg(l:List (Nat×Sh))(ws:List Nat)(U:BR):Bool:=l.all λ(s,_)=>ws.contains s||(match U.at s with| .box _ _ _=>true|_=>false)
def bK(ops:List Oper):Bool:=ops.zipIdx.all λ(o,i)=>(Oper.UO o).all λe=>decide (e<i)
def RU(C:FW)(fid:FuncId)(ops:List Oper)(draw:Bool)(U:BR)(K:BR->IT):IT:=
 if draw then(if bK ops then Q8 C fid ops (Wx ops) (xn ops) [] [] U K else .fail) else uZ C fid ops ops U K
def bL(key:Nat)(U:BR)(ws:List Nat)(l:List (Nat×Sh))(t:(DQ->BR->IT)->IT)(K:DQ->BR->IT):IT:=
 let b:=U.clear ws
 if kg l ws U then .N0 key (t λx a=>Tl b l x a) λx vs=>JJ vs l 0 b λa=>K x a else .fail
def Ľ(K:DQ->BR->IT):DQ->BR->IT
 | .normal,_=> .fail
 | .exit i,U=>K (.exit i) U
 | .ret,U=>K .ret U
def Gn(C:FW)(fid:FuncId):Code->BR->(DQ->BR->IT)->IT
 | .skip,U,K=>K .normal U
 | .region id ops draw,U,K=>match C.ĺ fid id with
  |none=>RU C fid ops.toList draw U (K .normal)
  |some l=>bL (200000+id) U (ops.toList.flatMap (Ep ops.toList)++ops.toList.flatMap (FC ops.toList)) l (λK=>RU C fid ops.toList draw U (K .normal)) K
 | .seq a b,U,K=>Gn C fid a U λx d=>match x with
  | .normal=>Gn C fid b d K
  | .exit i=>K (.exit i) d
  | .ret=>K .ret d
 | .cond c a b,U,K=>match c,Ec C U c with
  |_,some (.OS true)=>Gn C fid a U K
  |_,some (.OS false)=>Gn C fid b U K
  | .tmp s,some (.val v)=>match C.Ĺ fid s with
   |none=> .Gc v (Gn C fid a (U.set s (.OS true)) K) (Gn C fid b (U.set s (.OS false)) K)
   |some l=>bL (100000+s) U (s::(Db a++Db b++Ce a++Ce b)) l (λK=> .Gc v (Gn C fid a (U.set s (.OS true)) K) (Gn C fid b (U.set s (.OS false)) K)) K
  |_,_=> .fail
 | .block id b,U,K=>Gn C fid b U λx d=>match x with
  | .normal=>K .normal d
  | .exit i=>if i=id then K .normal d else K (.exit i) d
  | .ret=>K .ret d
 | .loop b,U,K=>
  let l:=C.aAv fid ((GL b).getD 0)
  let ws:=Db b++Ce b
  let f:=U.clear ws
  if kg l ws U then match WA U l with
   |none=> .fail
   |some init=> .loop ((GL b).getD 0) init (λvs=>JJ vs l 0 f λe=>Gn C fid b e λx d=>Tl f l x d) λx vs=>JJ vs l 0 f λd=>Ľ K x d
  else .fail
 | .exit id,U,K=>K (.exit id) U
 | .ret,U,K=>K .ret U
 | .scope b,U,K=>Gn C fid b U K
 | .label _,U,K=>K .normal U
 |_,_,_=> .fail
def GH(C:FW)(U:BR):List ResultVar->List Aa->(List Aa->IT)->IT
 |[],DW,K=>K DW.reverse
 | .tmp t::rs,DW,K=>match(U.at t).Hq with
  |some v=>GH C U rs (v::DW) K
  |none=> .fail
 | .cell a t::rs,DW,K=>match Fp C.P t,Gj C U (.tmp a) with
  |some none,some (.O9 _ o _ cs _)=>if o<cs.length then GH C U rs (cs.getD o .nilIface::DW) K else .fail
  |some (some n),some (.O9 _ o _ cs _)=>if o+n<=cs.length then GH C U rs (.agg ((cs.drop o).take n)::DW) K else .fail
  |some n,some (.ptr p)=> .load n p λv=>GH C U rs (v::DW) K
  |_,_=> .fail
def P6(U:BR):List ResultVar->Bool
 |[.tmp t]=>match U.at t with| .Bt _=>true|_=>false
 |_=>false
def vB(C:FW)(U:BR):List (Nat×Nat)->IT->IT
 |[],t=>t
 |(s,off)::l,t=>match(U.at s).Hq with
  |some p=> .O7 off p (vB C U l t)
  |none=> .fail
def Pc:List Aa->List Aa->(List Aa->IT)->IT
 |[],DW,K=>K DW.reverse
 |v::vs,DW,K=> .O3 v λv=>Pc vs (v::DW) K
def T7:List Aa->IT
 |[v]=> .ret .ret [v]
 |vs=> .ret .ret [.tuple vs]
def kJ(C:FW)(fid:FuncId)(fn:Func)(U:BR):IT:=
 if C.Jh fid&& !P6 U fn.results.toList then .fail
 else vB C U (C.ka fid) (GH C U fn.results.toList [] λvs=>if C.j_ fid then Pc vs [] T7 else T7 vs)
def kh(C:FW)(fid:FuncId)(fn:Func)(args:List Aa):IT:=
 match fn.body with
 |none=> .fail
 |some c=>Gn C fid c (args.map .val++List.replicate (fn.ntmps-args.length) .undef) λx U=>match x with
  | .normal=>kJ C fid fn U
  | .exit _=> .fail
  | .ret=>kJ C fid fn U
def aDX(C:FW)(fid:FuncId)(args:List Aa):IT:=
 match C.P.funcs[Ez fid]? with
 |some fn=>if fn.name== "runtime.NumGoroutine" then .fail else kh C fid fn args
 |none=> .fail
def Ca(C:FW)(fid:FuncId)(args:List Aa):IT:=
 match C.aAw fid with
 |some p=>p args
 |none=>aDX C fid args
abbrev g(l:List Aa)(i:Nat):Aa:=l.getD i .nilIface
abbrev I(n:Int):Aa:= .int .i64 n
abbrev S(s:Ao):Aa:= .str s
abbrev tt:Aa:= .bool true
abbrev ff:Aa:= .bool false
abbrev FW.run(C:FW):Nat->IT->Ah->Option J6:=IT.run (Ca C)
end Go.Am
end
end
section
namespace Go.Am
def IT.JT{fn:FuncId->List Aa->IT}{rec aDY:IT->Ah->Option J6}(hr:∀t h r,rec t h=some r->aDY t h=some r):
  ∀(t:IT) (h:Ah) (r:J6),IT.step fn rec t h=some r->IT.step fn aDY t h=some r:=by
 intro t;induction t with
 |ret x vs=>intro h r d;simpa[IT.step] using d
 |fail=>intro h r d;simp[IT.step] at d
 |op o args k ih=>
  intro h r d;simp only[IT.step] at d⊢;split at d;.exact ih _ _ _ d
  .cases d
 |cells n v k ih=>
  intro h r d;simp only[IT.step] at d⊢;split at d;.rename_i hc;rw[Ae hc];exact ih _ _ _ d
  .cases d
 |Gc c t e i q=>
  intro h r d;simp only[IT.step] at d⊢;split at d;.exact i _ _ d
  .exact q _ _ d
  .cases d
 |load n p k ih=>
  intro h r d;simp only[IT.step] at d⊢;split at d;.exact ih _ _ _ d
  .cases d
 |store n p v k ih=>
  intro h r d;simp only[IT.step] at d⊢;split at d;.exact ih _ _ d
  .cases d
 |alloc n v k ih=>
  intro h r d;simp only[IT.step] at d⊢;split at d;.exact ih _ _ _ d
  .cases d
 |call f args k ih=>
  intro h r d;simp only[IT.step] at d⊢;split at d;.rename_i h1;rw[hr _ _ _ h1];exact ih _ _ _ d
  .cases d
 |Ja g args k ih=>
  intro h r d;simp only[IT.step] at d⊢;split at d
  .rename_i f a ht;split at d;.rename_i h1;simp only[hr _ _ _ h1];exact ih _ _ _ d
   .cases d
  .cases d
 |BV f args k ih=>
  intro h r d;simp only[IT.step] at d⊢;split at d
  .rename_i Ho;rw[Ae Ho];split at d
   .rename_i h1;rw[hr _ _ _ h1];split at d;.rename_i je;simp only[je,BL];exact ih _ _ _ d
    .cases d
   .cases d
  .cases d
 |loop key init body k l j=>
  intro h r d;simp only[IT.step] at d⊢;split at d;.rename_i h1;rw[l _ _ _ h1];exact hr _ _ _ d
  .rename_i x vs h1 hne hx;rw[l _ _ _ hx];cases x<;>first|exact j _ _ _ _ d|exact absurd rfl hne
  .cases d
 |N0 key t k i j=>
  intro h r d;simp only[IT.step] at d⊢;split at d;.rename_i h1;rw[i _ _ h1];exact j _ _ _ _ d
  .cases d
 |same a b k ih=>
  intro h r d;simp only[IT.step] at d⊢;split at d;.rename_i hc;rw[Ae hc];exact ih _ _ d
  .cases d
 |O6 k ih=>intro h r d;simp only[IT.step] at d⊢;exact ih _ _ _ d
 |Kv m key v k ih=>
  intro h r d;simp only[IT.step] at d⊢;split at d;.exact ih _ _ d
  .cases d
 |L9 z ok m key k ih=>
  intro h r d;simp only[IT.step] at d⊢;split at d;.exact ih _ _ _ d
  .cases d
 |make size bytes zero len cap k ih=>
  intro h r d;simp only[IT.step] at d⊢;split at d;.exact ih _ _ _ d
  .cases d
 |K9 size bytes s x k ih=>
  intro h r d;simp only[IT.step] at d⊢;split at d;.exact ih _ _ _ d
  .cases d
 |Fb s k ih=>
  intro h r d;simp only[IT.step] at d⊢;split at d;.exact ih _ _ _ d
  .cases d
 |O3 v k ih=>
  intro h r d;simp only[IT.step] at d⊢;split at d;.exact ih _ _ _ d
  .cases d
 |O7 off p k ih=>
  intro h r d;simp only[IT.step] at d⊢;split at d;.exact ih _ _ d
  .cases d
 |IP size bytes s x k ih=>
  intro h r d;simp only[IT.step] at d⊢;split at d;.exact ih _ _ _ d
  .cases d
 |Gx size bytes s x k ih=>
  intro h r d;simp only[IT.step] at d⊢;split at d;.exact ih _ _ _ d
  .cases d
 |mem o args k ih=>
  intro h r d;simp only[IT.step] at d⊢;split at d;.exact ih _ _ _ d
  .cases d
 |uV f args k ih=>
  intro h r d;simp only[IT.step] at d⊢;split at d
  .rename_i h1;rw[hr _ _ _ h1];split at d;.rename_i je;simp only[je,BL];exact ih _ _ _ d
   .cases d
  .cases d
def IT.ki{fn:FuncId->List Aa->IT}:∀(n:Nat) (t:IT) (h:Ah) (r:J6),IT.run fn n t h=some r->IT.run fn (n+1) t h=some r:=by
 intro n;induction n with
 |zero=>intro t h r a;simp[IT.run] at a
 |succ n ih=>intro t h r a;exact IT.JT (λt h r=>ih t h r) t h r a
def IT.Ia{fn:FuncId->List Aa->IT}{n m:Nat}(hnm:n<=m){t:IT}{h:Ah}{r:J6}(a:IT.run fn n t h=some r):IT.run fn m t h=some r:=by
 induction hnm with
 |refl=>exact a
 |step _ ih=>exact IT.ki _ _ _ _ ih
abbrev Hb:=DQ->List Aa->Ah->Prop
def W(C:FW)(t:IT)(Q:Hb)(h:Ah):Prop:=∃n x vs h',C.run n t h=some (x,vs,h')/\Q x vs h'
section
variable{C:FW}{Q:Hb}{h:Ah}
def W.mono{t:IT}{Q':Hb}(hw:W C t Q h)(hq:∀x vs h',Q x vs h'->Q' x vs h'):W C t Q' h:=
 let⟨n,x,vs,h',hr,q⟩:=hw;⟨n,x,vs,h',hr,hq _ _ _ q⟩
def ľ{x:DQ}{vs:List Aa}(hq:Q x vs h):W C (.ret x vs) Q h:=⟨1,x,vs,h,rfl,hq⟩
def C2{t:IT}(a:∃n x vs h',IT.step (Ca C) (C.run n) t h=some (x,vs,h')/\Q x vs h'):W C t Q h:=
 let⟨n,x,vs,h',hr,q⟩:=a;⟨n+1,x,vs,h',hr,q⟩
def W.succ{t:IT}(a:W C t Q h):∃n x vs h',IT.step (Ca C) (C.run n) t h=some (x,vs,h')/\Q x vs h':=by
 obtain⟨n,x,vs,h',hr,q⟩:=a;cases n with
 |zero=>simp[FW.run,IT.run] at hr
 |succ n=>exact⟨n,x,vs,h',hr,q⟩
def aDZ{o:RM}{args:List Aa}{k:Aa->IT}{v:Aa}(hv:AE o args=some v)(hw:W C (k v) Q h):W C (.op o args k) Q h:=by obtain⟨n,x,vs,h',hr,q⟩:=hw.succ;exact C2 ⟨n,x,vs,h',by simp only[IT.step,hv];exact hr,q⟩
def vC{n:Nat}{v:Aa}{k:List Aa->IT}(hv:v.cells.length=n)(hw:W C (k v.cells) Q h):W C (.cells n v k) Q h:=by obtain⟨m,x,vs,h',hr,q⟩:=hw.succ;exact C2 ⟨m,x,vs,h',by simp only[IT.step,hv,BL];exact hr,q⟩
def vD{b:Bool}{t e:IT}(ht:b=true->W C t Q h)(he:b=false->W C e Q h):W C (.Gc (.bool b) t e) Q h:=by
 cases b with
 |true=>obtain⟨m,x,vs,h',hr,q⟩:=(ht rfl).succ;exact C2 ⟨m,x,vs,h',by simp only[IT.step];exact hr,q⟩
 |false=>obtain⟨m,x,vs,h',hr,q⟩:=(he rfl).succ;exact C2 ⟨m,x,vs,h',by simp only[IT.step];exact hr,q⟩
def kj{n:Option Nat}{p v:Aa}{k:Aa->IT}(hv:Bd h n p=some v)(hw:W C (k v) Q h):W C (.load n p k) Q h:=by obtain⟨m,x,vs,h',hr,q⟩:=hw.succ;exact C2 ⟨m,x,vs,h',by simp only[IT.step,hv];exact hr,q⟩
def vE{n:Nat}{p v:Aa}{k:IT}{h1:Ah}(hv:Cx h n p v=some h1)(hw:W C k Q h1):W C (.store n p v k) Q h:=by obtain⟨m,x,vs,h',hr,q⟩:=hw.succ;exact C2 ⟨m,x,vs,h',by simp only[IT.step,hv];exact hr,q⟩
def vF{n:Nat}{v:Aa}{k:Aa->IT}(hv:v.cells.length=n)(hw:W C (k (.ptr (some (h.length,0)))) Q (h++[.cells v.cells])):W C (.alloc n v k) Q h:=by obtain⟨m,x,vs,h',hr,q⟩:=hw.succ;exact C2 ⟨m,x,vs,h',by simp only[IT.step,Wk,hv,BL];exact hr,q⟩
def kq{a b:Aa}{k:IT}(hv:Aa.beq a b=true)(hw:W C k Q h):W C (.same a b k) Q h:=by obtain⟨m,x,vs,h',hr,q⟩:=hw.succ;exact C2 ⟨m,x,vs,h',by simp only[IT.step,hv,BL];exact hr,q⟩
def ku{k:Aa->IT}(hw:W C (k (.map (some h.length))) Q (h++[.map []])):W C (.O6 k) Q h:=by obtain⟨m,x,vs,h',hr,q⟩:=hw.succ;exact C2 ⟨m,x,vs,h',by simp only[IT.step];exact hr,q⟩
def kx{m key v:Aa}{k:IT}{h1:Ah}(hv:T3 h m key v=some h1)(hw:W C k Q h1):W C (.Kv m key v k) Q h:=by obtain⟨n,x,vs,h',hr,q⟩:=hw.succ;exact C2 ⟨n,x,vs,h',by simp only[IT.step,hv];exact hr,q⟩
def ky{z:Aa}{ok:Bool}{m key v:Aa}{k:Aa->IT}(hv:T4 h z ok m key=some v)(hw:W C (k v) Q h):W C (.L9 z ok m key k) Q h:=by obtain⟨n,x,vs,h',hr,q⟩:=hw.succ;exact C2 ⟨n,x,vs,h',by simp only[IT.step,hv];exact hr,q⟩
def pK{size bytes:Nat}{zero:List Aa}{len cap v:Aa}{k:Aa->IT}{h1:Ah}(hv:RO h size bytes zero len cap=some (h1,v))(hw:W C (k v) Q h1):W C (.make size bytes zero len cap k) Q h:=by obtain⟨n,x,vs,h',hr,q⟩:=hw.succ;exact C2 ⟨n,x,vs,h',by simp only[IT.step,hv];exact hr,q⟩
def vG{size bytes:Nat}{s x v:Aa}{k:Aa->IT}{h1:Ah}(hv:KF h size bytes s x=some (h1,v))(hw:W C (k v) Q h1):W C (.K9 size bytes s x k) Q h:=by obtain⟨n,x,vs,h',hr,q⟩:=hw.succ;exact C2 ⟨n,x,vs,h',by simp only[IT.step,hv];exact hr,q⟩
def WB{s v:Aa}{k:Aa->IT}{h1:Ah}(hv:IQ h s=some (h1,v))(hw:W C (k v) Q h1):W C (.Fb s k) Q h:=by obtain⟨n,x,vs,h',hr,q⟩:=hw.succ;exact C2 ⟨n,x,vs,h',by simp only[IT.step,hv];exact hr,q⟩
def Ŀ{u v:Aa}{k:Aa->IT}{h1:Ah}(hv:Kw h u=some (h1,v))(hw:W C (k v) Q h1):W C (.O3 u k) Q h:=by obtain⟨n,x,vs,h',hr,q⟩:=hw.succ;exact C2 ⟨n,x,vs,h',by simp only[IT.step,hv];exact hr,q⟩
def vH{off:Nat}{p:Aa}{k:IT}{h1:Ah}(hv:Ma h off p=some h1)(hw:W C k Q h1):W C (.O7 off p k) Q h:=by obtain⟨n,x,vs,h',hr,q⟩:=hw.succ;exact C2 ⟨n,x,vs,h',by simp only[IT.step,hv];exact hr,q⟩
def kz{size bytes:Nat}{s x v:Aa}{k:Aa->IT}{h1:Ah}(hv:F8 h size bytes s x=some (h1,v))(hw:W C (k v) Q h1):W C (.IP size bytes s x k) Q h:=by obtain⟨n,x,vs,h',hr,q⟩:=hw.succ;exact C2 ⟨n,x,vs,h',by simp only[IT.step,hv];exact hr,q⟩
def ZD{size bytes:Nat}{s x v:Aa}{k:Aa->IT}(hv:QF h size bytes s x=some v)(hw:W C (k v) Q h):W C (.Gx size bytes s x k) Q h:=by obtain⟨n,x,vs,h',hr,q⟩:=hw.succ;exact C2 ⟨n,x,vs,h',by simp only[IT.step,hv];exact hr,q⟩
def ŀ{o:kF}{args:List Aa}{v:Aa}{k:Aa->IT}{h1:Ah}(hv:E4 o h args=some (h1,v))(hw:W C (k v) Q h1):W C (.mem o args k) Q h:=by obtain⟨n,x,vs,h',hr,q⟩:=hw.succ;exact C2 ⟨n,x,vs,h',by simp only[IT.step,hv];exact hr,q⟩
def Ev(C:FW)(f:FuncId)(args:List Aa)(h:Ah)(R:Aa->Ah->Prop):Prop:=
 W C (Ca C f args) (λx vs h'=>x= .ret/\∃r,vs=[r]/\R r h') h
def Ev.mono{f:FuncId}{args:List Aa}{R R':Aa->Ah->Prop}(hw:Ev C f args h R)(hr:∀r h',R r h'->R' r h'):Ev C f args h R':=
 W.mono hw λ_ _ _ ⟨hx,r,hv,hR⟩=>⟨hx,r,hv,hr _ _ hR⟩
def k_{f:FuncId}{args:List Aa}{k:Aa->IT}(hc:Ev C f args h λr h1=>W C (k r) Q h1):W C (.call f args k) Q h:=by obtain⟨n,x,vs,h1,hr,hx,r,hv,m,x',HQ,h',FX,q⟩:=hc;subst hx;subst hv;refine C2 ⟨max n m,x',HQ,h',?_,q⟩;have Ł:=IT.Ia (HN n m) hr;have h2:=IT.Ia (Bu (Hl n m) (Fi _)) FX;simp only[IT.step];simp only[FW.run] at*;rw[Ł];exact h2
def xo{f:FuncId}{args:List Aa}{k:Aa->IT}(ha:args.all Aa.MI=true)(hc:Ev C f args [] λr _=>r.MI=true/\W C (k r) Q h):W C (.BV f args k) Q h:=by obtain⟨n,x,vs,h1,hr,hx,r,hv,Ho,m,x',HQ,h',FX,q⟩:=hc;subst hx;subst hv;refine C2 ⟨max n m,x',HQ,h',?_,q⟩;have Ł:=IT.Ia (HN n m) hr;have h2:=IT.Ia (Bu (Hl n m) (Fi _)) FX;simp only[IT.step,ha,BL];simp only[FW.run] at*;rw[Ł];simp only[Ho,BL];exact h2
def lf{key:Nat}{t:IT}{k:DQ->List Aa->IT}(hw:W C t (λx vs h1=>W C (k x vs) Q h1) h):W C (.N0 key t k) Q h:=by obtain⟨n,x,vs,h1,hr,a⟩:=hw.succ;obtain⟨m,x',HQ,h',FX,q⟩:=a.succ;refine C2 ⟨max n m,x',HQ,h',?_,q⟩;have c:=IT.JT (λt h r=>IT.Ia (fn:=Ca C) (HN n m)) _ _ _ hr;have b:=IT.JT (λt h r=>IT.Ia (fn:=Ca C) (Hl n m)) _ _ _ FX;simp only[IT.step];simp only[FW.run] at*;rw[c];exact b
end
end Go.Am
end
