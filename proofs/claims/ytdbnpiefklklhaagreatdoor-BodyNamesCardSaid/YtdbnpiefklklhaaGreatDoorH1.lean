/- Lemmas -/
import GoSem.Step
set_option linter.all false
def Ad:=@if_neg
def Ae:=@Nat.le_refl
def Af:=@if_pos
def Aj:=@List.getElem?_eq_some_iff
def Ak:=@decide_eq_false
def Al:=@decide_eq_true
def An:=@List.getElem?_append_left
def Ao:=@List.getElem?_set_ne
def Ap:=@List.mem_append
def Aq:=@List.length_append
def As:=@List.getElem?_eq_getElem
def Av:=@List.length_map
def Ay:=@List.drop_eq_getElem_cons
def AB:=@List.length_take
def AE:=@List.getElem?_set_self
def AF:=@List.Sublist.refl
def AG:=@List.mem_cons
def AH:=@false_implies
def AJ:=@List.length_cons
def AL:=@Array.getElem?_eq_some_iff
def AN:=@Bool.and_eq_true
def AP:=@true_implies
def AQ:=@List.take_succ_eq_append_getElem
def AR:=@List.getD_eq_getElem?_getD
def AS:=@List.append_assoc
def AT:=@List.drop_of_length_le
def AU:=@not_true_eq_false
def AV:=@not_false_eq_true
def AY:=@List.getElem_mem
def A0:=@List.mem_of_mem_take
def A4:=@List.mem_map
def A5:=@eq_true
def A7:=@Nat.zero_le
def A8:=@List.take_of_length_le
def A9:=@List.map_cons
def Bd:=@List.mem_singleton
def Bg:=@List.length_drop
def Bi:=@Nat.lt_or_ge
def Bk:=@Nat.add_zero
def Bl:=@List.length_singleton
def Bp:=@Nat.le_trans
def Bt:=@List.length_nil
def Bu:=@List.mem_of_mem_drop
def Bx:=@Option.some.injEq
def By:=@Option.map_some
def BA:=@Nat.add_mul
def BB:=@List.append_nil
def BD:=@Int.toNat_natCast
def BE:=@if_true
def BH:=@List.mem_append_right
def BI:=@List.getElem?_append_right
def BJ:=@Nat.zero_add
def BN:=@List.nodup_append
def BT:=@List.nil_append
def BU:=@List.map_append
def BV:=@List.length_set
def BW:=@List.take_length
def BZ:=@List.size_toArray
def B0:=@decide_eq_true_eq
def B2:=@congrArg
def B3:=@List.nodup_cons
def B5:=@List.set_append_right
def B8:=@Array.length_toList
def Cb:=@List.mem_filterMap
def Cd:=@List.getElem?_map
def Cg:=@List.all_eq_true
def Ci:=@Array.getElem?_eq_getElem
def Cj:=@List.getElem?_take
def Ck:=@Bool.false_eq_true
def Cl:=@List.take_sublist
def Cm:=@Option.bind_some
def Cn:=@eq_self
def Cp:=@List.getElem?_drop
def Cq:=@of_decide_eq_true
def Ct:=@List.mem_of_getElem?
def Cu:=@List.mem_append_left
def Cv:=@List.set_eq_take_append_cons_drop
def Cw:=@List.take_append_drop
def Cy:=@ne_eq
def CD:=@List.getElem?_of_mem
def CE:=@Nat.min_eq_left
def CH:=@List.flatten_cons
def CJ:=@List.cons_append
def CM:=@List.getElem?_take_of_lt
def CO:=@List.eq_nil_of_length_eq_zero
def CU:=@Nat.succ_pos
def C5:=@List.getElem?_eq_none
def C9:=@decide_eq_decide
def Dc:=@Nat.lt_irrefl
def Dg:=@List.mem_filter
def Du:=@List.take_append_of_le_length
def Dv:=@List.mem_or_eq_of_mem_set
def Dw:=@List.map_nil
def Dx:=@Ne.symm
def Dy:=@Nat.sub_self
def DE:=@Option.some.inj
def DU:=@if_false
def DV:=@Nat.mul_le_mul_right
def Ed:=@Nat.one_mul
def Ef:=@List.filterMap_append
def Es:=@List.drop_drop
def Ex:=@List.cons.injEq
def EK:=@List.filter_append
def ET:=@List.getElem_map
def E6:=@List.take_left
def E7:=@List.nodup_iff_pairwise_ne
def E8:=@decide_false
def E9:=@Decidable.not_not
def Fa:=@List.length_pos_iff
def Fh:=@Nat.le_succ
def Fi:=@Nat.zero_lt_one
def Fs:=@List.length_replicate
def Fy:=@Option.getD_some
def Fz:=@Nat.le_add_right
def FV:=@List.take_take
def FW:=@Nat.mul_one
def Ge:=@Array.ext'
def GA:=@Array.toList_append
def GM:=@Array.getD_eq_getD_getElem?
def GN:=@Option.map_eq_some_iff
def GO:=@List.map_set
def GS:=@decide_true
def GU:=@Nat.le_max_right
def GV:=@List.drop_length
def GW:=@List.filter_cons
def Hs:=@List.extract_eq_take_drop
def Ht:=@List.mem_of_find?_eq_some
def Hu:=@Nat.le_max_left
def Hv:=@List.find?_cons
def HC:=@List.pairwise_map
def HD:=@List.reverse_cons
def HE:=@bne_self_eq_false
def HQ:=@List.map_take
def HX:=@Int.toNat_of_nonneg
def HY:=@List.reverse_append
def HZ:=@List.filterMap_cons
def Ik:=@Array.eq_empty_of_size_eq_zero
def Il:=@Nat.le_mul_of_pos_right
def Im:=@List.getElem?_cons_zero
def IH:=@Nat.lt_of_lt_of_le
def II:=@List.reverse_singleton
def IJ:=@List.find?_eq_none
def IX:=@List.take_left'
def I2:=@Bool.false_or
def Jc:=@List.singleton_append
def Jd:=@List.set_getElem_self
def Jo:=@Array.size_append
def JQ:=@List.nodup_nil
def JR:=@Array.replicate_succ
def JS:=@Array.replicate_zero
def JT:=@List.reverse_reverse
def J0:=@List.any_eq_true
def J1:=@List.not_mem_nil
def Kn:=@List.toList_toArray
def Ko:=@List.flatten_append
def Kp:=@List.replicate_succ
def Kq:=@List.append_toArray
def Kr:=@List.findIdx?_eq_some_iff_findIdx_eq
def KU:=@Prod.mk.injEq
def KV:=@List.map_drop
def KY:=@List.drop_left'
def KZ:=@List.find?_some
def K0:=@Bool.eq_iff_iff
def Lf:=@Nat.eq_zero_or_pos
def Lh:=@Int.le_refl
def L7:=@List.ext_getElem?
def L8:=@List.drop_zero
def L9:=@Nat.le_of_eq
def Ma:=@Nat.zero_mul
def Mb:=@and_true
def Mc:=@List.push_toArray
def MF:=@Array.getElem?_modify
def MG:=@Nat.eq_of_beq_eq_true
def MW:=@Array.toList_map
def Np:=@Array.toList_extract
def Nq:=@true_and
def Oh:=@Bool.or_eq_true
def Oi:=@not_or
def OB:=@List.getElem_of_mem
def OC:=@List.mem_map_of_mem
def OJ:=@Nat.add_comm
def OK:=@Nat.ne_of_lt
def OL:=@Bool.true_or
def PJ:=@List.take_zero
def PK:=@Array.ext_getElem?
def PL:=@Bool.not_false
def PM:=@Int.fdiv_eq_ediv_of_nonneg
def Qn:=@Option.filter_eq_some_iff
def Qo:=@List.getLast?_eq_getElem?
def QL:=@List.find?_append
def Rq:=@Nat.add_assoc
def Rr:=@Bool.or_false
def Rs:=@Bool.bne_true
def Rt:=@List.getElem_append_left
def Ru:=@List.any_cons
def SV:=@List.drop_append
def SX:=@List.getElem?_cons_succ
def SY:=@List.reverse_nil
def SZ:=@Nat.lt_succ_self
def S0:=@Option.bind_eq_some_iff
def S1:=@Nat.add_sub_cancel_left
def S2:=@Int.eq_ofNat_of_zero_le
def S3:=@List.map_reverse
def TY:=@List.sublist_cons_self
def TZ:=@Nat.le_of_lt
def T0:=@Int.not_lt
def UG:=@UInt8.toNat_inj
def X2:=@List.mem_cons_of_mem
def YH:=@List.take_succ_cons
def YI:=@List.take_set_of_le
def YJ:=@Array.getElem?_push
def YK:=@List.map_congr_left
def YL:=@List.getD_cons_zero
def YM:=@List.length_reverse
def YN:=@List.drop_take_self
def YO:=@List.filter_eq_self
def Z5:=@Bool.true_and
def Z6:=@List.all_cons
def eS:=@List.set_cons_zero
def eT:=@Nat.add_sub_cancel
def lJ:=@and_self
def lK:=@dif_pos
def lL:=@List.set_set
def lM:=@or_false
def lN:=@List.any_nil
def lX:=@Array.getElem?_setIfInBounds_ne
def lY:=@List.takeWhile_append_dropWhile
def qQ:=@List.zipIdx_cons
def qR:=@List.take_append
def qS:=@List.mem_flatMap
def qT:=@Option.getD_none
def yZ:=@List.drop_append_of_le_length
def fk:=@List.foldl_cons
def gu:=@eq_comm
def w_:=@beq_iff_eq
def xt:=@List.pairwise_iff_getElem
def Ā:=@List.take_add
def ā:=@List.eq_of_mem_replicate
def Ă:=@Int.lt_irrefl
def Ň:=@and_false
def ň:=@false_and
def ŉ:=@List.filter_cons_of_pos
def Ŋ:=@List.length_eq_zero_iff
def aDE:=@List.length_eq_one_iff
def aDF:=@List.map_map
def aEe:=@List.contains_iff_mem
def aEf:=@Array.getElem?_toList
def aEg:=@List.dropLast_eq_take
def aHN:=@List.getElem?_append
def aHO:=@List.range_eq_range'
def aHP:=@List.pairwise_append
def aHQ:=@Array.getElem_toList
def aHR:=@List.mem_of_getLast?
def aIP:=@Nat.add_sub_cancel'
def aIQ:=@List.drop_set_of_lt
def aIR:=@Array.toList_zipIdx
def aIS:=@List.getD_cons_succ
def aM1:=@List.zip_cons_cons
def aM2:=@Array.foldl_toList
def aM3:=@List.pairwise_cons
def aM4:=@Option.isSome_some
def aM5:=@List.findIdx?_cons
def aM6:=@Option.toList_some
def aM7:=@List.map_singleton
def aOY:=@Bool.not_eq_true'
def aOZ:=@List.getElem?_set
def aO1:=@List.any_eq_false
def aO3:=@List.drop_sublist
def aO4:=@List.find?_isSome
def aO5:=@List.getLast?_nil
def aO6:=@Nat.lt_trichotomy
abbrev aTs:List UInt8:=[97,116,116,114,105,98,117,116,101,78,97,109,101,32,97,116,116,114,105,98,117,116,101,84,121,112,101,32,98,97,115,101,70,114,101,113,117,101,110,99,121,32,98,97,115,101,80,114,111,102,105,108,101,32,99,97,108,99,77,111,100,101,32,99,108,105,112,80,97,116,104,85,110,105,116,115,32,100,105,102,102,117,115,101,67,111,110,115,116,97,110,116,32,101,100,103,101,77,111,100,101,32,102,105,108,116,101,114,85,110,105,116,115,32,103,108,121,112,104,82,101,102,32,103,114,97,100,105,101,110,116,84,114,97,110,115,102,111,114,109,32,103,114,97,100,105,101,110,116,85,110,105,116,115,32,107,101,114,110,101,108,77,97,116,114,105,120,32,107,101,114,110,101,108,85,110,105,116,76,101,110,103,116,104,32,107,101,121,80,111,105,110,116,115,32,107,101,121,83,112,108,105,110,101,115,32,107,101,121,84,105,109,101,115,32,108,101,110,103,116,104,65,100,106,117,115,116,32,108,105,109,105,116,105,110,103,67,111,110,101,65,110,103,108,101,32,109,97,114,107,101,114,72,101,105,103,104,116,32,109,97,114,107,101,114,85,110,105,116,115,32,109,97,114,107,101,114,87,105,100,116,104,32,109,97,115,107,67,111,110,116,101,110,116,85,110,105,116,115,32,109,97,115,107,85,110,105,116,115,32,110,117,109,79,99,116,97,118,101,115,32,112,97,116,104,76,101,110,103,116,104,32,112,97,116,116,101,114,110,67,111,110,116,101,110,116,85,110,105,116,115,32,112,97,116,116,101,114,110,84,114,97,110,115,102,111,114,109,32,112,97,116,116,101,114,110,85,110,105,116,115,32,112,111,105,110,116,115,65,116,88,32,112,111,105,110,116,115,65,116,89,32,112,111,105,110,116,115,65,116,90,32,112,114,101,115,101,114,118,101,65,108,112,104,97,32,112,114,101,115,101,114,118,101,65,115,112,101,99,116,82,97,116,105,111,32,112,114,105,109,105,116,105,118,101,85,110,105,116,115,32,114,101,102,88,32,114,101,102,89,32,114,101,112,101,97,116,67,111,117,110,116,32,114,101,112,101,97,116,68,117,114,32,114,101,113,117,105,114,101,100,69,120,116,101,110,115,105,111,110,115,32,114,101,113,117,105,114,101,100,70,101,97,116,117,114,101,115,32,115,112,101,99,117,108,97,114,67,111,110,115,116,97,110,116,32,115,112,101,99,117,108,97,114,69,120,112,111,110,101,110,116,32,115,112,114,101,97,100,77,101,116,104,111,100,32,115,116,97,114,116,79,102,102,115,101,116,32,115,116,100,68,101,118,105,97,116,105,111,110,32,115,116,105,116,99,104,84,105,108,101,115,32,115,117,114,102,97,99,101,83,99,97,108,101,32,115,121,115,116,101,109,76,97,110,103,117,97,103,101,32,116,97,98,108,101,86,97,108,117,101,115,32,116,97,114,103,101,116,88,32,116,97,114,103,101,116,89,32,116,101,120,116,76,101,110,103,116,104,32,118,105,101,119,66,111,120,32,118,105,101,119,84,97,114,103,101,116,32,120,67,104,97,110,110,101,108,83,101,108,101,99,116,111,114,32,121,67,104,97,110,110,101,108,83,101,108,101,99,116,111,114,32,122,111,111,109,65,110,100,80,97,110]
abbrev aTt:List UInt8:=[97,108,116,71,108,121,112,104,32,97,108,116,71,108,121,112,104,68,101,102,32,97,108,116,71,108,121,112,104,73,116,101,109,32,97,110,105,109,97,116,101,67,111,108,111,114,32,97,110,105,109,97,116,101,77,111,116,105,111,110,32,97,110,105,109,97,116,101,84,114,97,110,115,102,111,114,109,32,99,108,105,112,80,97,116,104,32,102,101,66,108,101,110,100,32,102,101,67,111,108,111,114,77,97,116,114,105,120,32,102,101,67,111,109,112,111,110,101,110,116,84,114,97,110,115,102,101,114,32,102,101,67,111,109,112,111,115,105,116,101,32,102,101,67,111,110,118,111,108,118,101,77,97,116,114,105,120,32,102,101,68,105,102,102,117,115,101,76,105,103,104,116,105,110,103,32,102,101,68,105,115,112,108,97,99,101,109,101,110,116,77,97,112,32,102,101,68,105,115,116,97,110,116,76,105,103,104,116,32,102,101,68,114,111,112,83,104,97,100,111,119,32,102,101,70,108,111,111,100,32,102,101,70,117,110,99,65,32,102,101,70,117,110,99,66,32,102,101,70,117,110,99,71,32,102,101,70,117,110,99,82,32,102,101,71,97,117,115,115,105,97,110,66,108,117,114,32,102,101,73,109,97,103,101,32,102,101,77,101,114,103,101,32,102,101,77,101,114,103,101,78,111,100,101,32,102,101,77,111,114,112,104,111,108,111,103,121,32,102,101,79,102,102,115,101,116,32,102,101,80,111,105,110,116,76,105,103,104,116,32,102,101,83,112,101,99,117,108,97,114,76,105,103,104,116,105,110,103,32,102,101,83,112,111,116,76,105,103,104,116,32,102,101,84,105,108,101,32,102,101,84,117,114,98,117,108,101,110,99,101,32,102,111,114,101,105,103,110,79,98,106,101,99,116,32,103,108,121,112,104,82,101,102,32,108,105,110,101,97,114,71,114,97,100,105,101,110,116,32,114,97,100,105,97,108,71,114,97,100,105,101,110,116,32,116,101,120,116,80,97,116,104]
abbrev aTu:List UInt8:=[97,100,100,114,101,115,115,32,97,114,116,105,99,108,101,32,97,115,105,100,101,32,98,108,111,99,107,113,117,111,116,101,32,98,117,116,116,111,110,32,99,101,110,116,101,114,32,100,101,116,97,105,108,115,32,100,105,97,108,111,103,32,100,105,114,32,100,105,118,32,100,108,32,102,105,101,108,100,115,101,116,32,102,105,103,99,97,112,116,105,111,110,32,102,105,103,117,114,101,32,102,111,111,116,101,114,32,104,101,97,100,101,114,32,104,103,114,111,117,112,32,108,105,115,116,105,110,103,32,109,97,105,110,32,109,101,110,117,32,110,97,118,32,111,108,32,112,114,101,32,115,101,97,114,99,104,32,115,101,99,116,105,111,110,32,115,117,109,109,97,114,121,32,117,108]
abbrev aTv:List UInt8:=[99,97,112,116,105,111,110,32,99,111,108,32,99,111,108,103,114,111,117,112,32,102,114,97,109,101,32,104,101,97,100,32,116,98,111,100,121,32,116,100,32,116,102,111,111,116,32,116,104,32,116,104,101,97,100,32,116,114]
abbrev aTw:List UInt8:=[98,97,115,101,32,98,97,115,101,102,111,110,116,32,98,103,115,111,117,110,100,32,108,105,110,107,32,109,101,116,97,32,110,111,102,114,97,109,101,115,32,115,99,114,105,112,116,32,115,116,121,108,101,32,116,101,109,112,108,97,116,101,32,116,105,116,108,101]
abbrev aTx:List UInt8:=[97,100,100,114,101,115,115,32,97,114,116,105,99,108,101,32,97,115,105,100,101,32,98,108,111,99,107,113,117,111,116,101,32,99,101,110,116,101,114,32,100,101,116,97,105,108,115,32,100,105,97,108,111,103,32,100,105,114,32,100,105,118,32,100,108,32,102,105,101,108,100,115,101,116,32,102,105,103,99,97,112,116,105,111,110,32,102,105,103,117,114,101,32,102,111,111,116,101,114,32,104,101,97,100,101,114,32,104,103,114,111,117,112,32,109,97,105,110,32,109,101,110,117,32,110,97,118,32,111,108,32,112,32,115,101,97,114,99,104,32,115,101,99,116,105,111,110,32,115,117,109,109,97,114,121,32,117,108]
abbrev aTy:List UInt8:=[100,105,118,32,112,32,116,105,116,108,101,32,115,116,121,108,101,32,102,111,114,109,32,97,32,116,97,98,108,101]
abbrev aTz:List UInt8:=[116,101,109,112,108,97,116,101]
abbrev aTA:List UInt8:=[104,116,109,108]
abbrev aTB:List UInt8:=[104,101,97,100]
abbrev aTC:List UInt8:=[98,117,116,116,111,110]
abbrev aTD:List UInt8:=[105,109,97,103,101]
abbrev aTE:List UInt8:=[97,114,101,97,32,98,114,32,101,109,98,101,100,32,105,109,103,32,105,109,97,103,101,32,107,101,121,103,101,110,32,119,98,114,32,105,110,112,117,116,32,112,97,114,97,109,32,115,111,117,114,99,101,32,116,114,97,99,107,32,104,114]
abbrev aTF:List UInt8:=[98,111,100,121]
abbrev aTG:List UInt8:=[105,109,103]
abbrev aTH:List UInt8:=[97,32,98,32,98,105,103,32,99,111,100,101,32,101,109,32,102,111,110,116,32,105,32,110,111,98,114,32,115,32,115,109,97,108,108,32,115,116,114,105,107,101,32,115,116,114,111,110,103,32,116,116,32,117]
abbrev aTI:List UInt8:=[45,47,47,87,51,67,47,47,68,84,68,32,72,84,77,76,32,69,120,112,101,114,105,109,101,110,116,97,108,32,49,57,57,54,48,55,49,50,47,47]
abbrev aTJ:List UInt8:=[102,114,97,109,101,115,101,116]
abbrev aTK:List UInt8:=[45,47,47,87,51,67,47,47,68,84,68,32,72,84,77,76,32,69,120,112,101,114,105,109,101,110,116,97,108,32,57,55,48,52,50,49,47,47]
abbrev aTL:List UInt8:=[104,49,32,104,50,32,104,51,32,104,52,32,104,53,32,104,54]
abbrev aTM:List UInt8:=[98,32,98,105,103,32,99,111,100,101,32,101,109,32,102,111,110,116,32,105,32,115,32,115,109,97,108,108,32,115,116,114,105,107,101,32,115,116,114,111,110,103,32,116,116,32,117]
abbrev aTN:List UInt8:=[45,47,47,87,51,67,47,47,68,84,68,32,72,84,77,76,32,52,46,48,32,84,114,97,110,115,105,116,105,111,110,97,108,47,47]
abbrev aTO:List UInt8:=[116,97,98,108,101]
abbrev aTP:List UInt8:=[97,110,110,111,116,97,116,105,111,110,45,120,109,108]
abbrev aTQ:List UInt8:=[110,111,115,99,114,105,112,116]
abbrev aTR:List UInt8:=[97,112,112,108,101,116,32,109,97,114,113,117,101,101,32,111,98,106,101,99,116]
abbrev aTS:List UInt8:=[98,97,115,101,102,111,110,116,32,98,103,115,111,117,110,100,32,108,105,110,107,32,109,101,116,97,32,110,111,102,114,97,109,101,115,32,115,116,121,108,101]
abbrev aTT:List UInt8:=[111,112,116,105,111,110]
abbrev aTU:List UInt8:=[45,47,47,87,51,67,47,47,68,84,68,32,72,84,77,76,32,52,46,48,32,70,114,97,109,101,115,101,116,47,47]
abbrev aTV:List UInt8:=[45,47,47,87,51,67,47,47,68,84,68,32,72,84,77,76,32,51,32,49,57,57,53,45,48,51,45,50,52,47,47]
abbrev aTW:List UInt8:=[116,101,120,116,97,114,101,97,32,120,109,112,32,105,102,114,97,109,101,32,110,111,101,109,98,101,100,32,112,108,97,105,110,116,101,120,116]
abbrev aTX:List UInt8:=[116,105,116,108,101]
abbrev aTY:List UInt8:=[99,97,112,116,105,111,110,32,99,111,108,103,114,111,117,112,32,116,98,111,100,121,32,116,102,111,111,116,32,116,104,101,97,100]
abbrev aTZ:List UInt8:=[110,111,98,114]
abbrev aT0:List UInt8:=[99,97,112,116,105,111,110]
abbrev aT1:List UInt8:=[45,47,47,87,51,67,47,47,68,84,68,32,72,84,77,76,32,52,46,48,49,32,84,114,97,110,115,105,116,105,111,110,97,108,47,47]
abbrev aT2:List UInt8:=[45,47,47,73,69,84,70,47,47,68,84,68,32,72,84,77,76,32,76,101,118,101,108,32]
abbrev aT3:List UInt8:=[45,47,47,73,69,84,70,47,47,68,84,68,32,72,84,77,76,32,83,116,114,105,99,116]
abbrev aT4:List UInt8:=[98,97,115,101,32,98,97,115,101,102,111,110,116,32,98,103,115,111,117,110,100,32,108,105,110,107,32,109,101,116,97]
abbrev aT5:List UInt8:=[45,47,47,87,51,79,47,47,68,84,68,32,87,51,32,72,84,77,76,32,51,46,48,47,47]
abbrev aT6:List UInt8:=[45,47,47,87,51,79,47,47,68,84,68,32,87,51,32,72,84,77,76,32,83,116,114,105,99,116,32,51,46,48,47,47,69,78,47,47]
abbrev aT7:List UInt8:=[45,47,87,51,67,47,68,84,68,32,72,84,77,76,32,52,46,48,32,84,114,97,110,115,105,116,105,111,110,97,108,47,69,78]
abbrev aT8:List UInt8:=[45,47,47,73,69,84,70,47,47,68,84,68,32,72,84,77,76,32,50,46,49,69,47,47]
abbrev aT9:List UInt8:=[45,47,47,87,51,67,47,47,68,84,68,32,72,84,77,76,32,52,46,48,49,32,70,114,97,109,101,115,101,116,47,47]
abbrev aUa:List UInt8:=[102,111,114,109]
abbrev aUb:List UInt8:=[102,111,114,101,105,103,110,79,98,106,101,99,116]
abbrev aUc:List UInt8:=[111,112,116,103,114,111,117,112]
abbrev aUd:List UInt8:=[104,101,97,100,32,116,101,109,112,108,97,116,101,32,98,111,100,121,32,104,116,109,108,32,98,114]
abbrev aUe:List UInt8:=[99,111,108,103,114,111,117,112]
abbrev aUf:List UInt8:=[115,101,108,101,99,116]
abbrev aUg:List UInt8:=[45,47,47,73,69,84,70,47,47,68,84,68,32,72,84,77,76,32,50,46,48]
abbrev aUh:List UInt8:=[45,47,47,87,51,67,47,47,68,84,68,32,87,51,32,72,84,77,76,47,47]
abbrev aUi:List UInt8:=[104,101,97,100,32,98,111,100,121,32,104,116,109,108,32,98,114]
abbrev aUj:List UInt8:=[45,47,47,87,51,67,47,47,68,84,68,32,72,84,77,76,32,51,46,50]
abbrev aUk:List UInt8:=[45,47,47,73,69,84,70,47,47,68,84,68,32,72,84,77,76,32,51]
abbrev aUl:List UInt8:=[45,47,47,73,69,84,70,47,47,68,84,68,32,72,84,77,76,47,47]
abbrev aUm:List UInt8:=[116,102,111,111,116]
abbrev aUn:List UInt8:=[116,98,111,100,121]
abbrev aUo:List UInt8:=[116,104,101,97,100]
abbrev aUp:List UInt8:=[97,112,112,108,105,99,97,116,105,111,110,47,120,104,116,109,108,43,120,109,108]
abbrev aUq:List UInt8:=[116,101,109,112,108,97,116,101,32,98,111,100,121,32,104,116,109,108,32,98,114]
abbrev aUr:List UInt8:=[120,108,105,110,107,58,97,114,99,114,111,108,101]
abbrev aUs:List UInt8:=[104,105,100,100,101,110]
abbrev aUt:List UInt8:=[120,108,105,110,107,58,97,99,116,117,97,116,101]
abbrev aUu:List UInt8:=[105,110,112,117,116]
abbrev aUv:List UInt8:=[115,99,114,105,112,116]
abbrev aUw:List UInt8:=[112,108,97,105,110,116,101,120,116]
abbrev aUx:List UInt8:=[120,108,105,110,107,58,116,105,116,108,101]
abbrev aUy:List UInt8:=[120,109,108,110,115,58,120,108,105,110,107]
abbrev aUz:List UInt8:=[120,109,108,110,115]
abbrev aUA:List UInt8:=[116,101,120,116,97,114,101,97]
abbrev aUB:List UInt8:=[120,108,105,110,107,58,104,114,101,102]
abbrev aUC:List UInt8:=[120,108,105,110,107,58,114,111,108,101]
abbrev aUD:List UInt8:=[120,108,105,110,107,58,115,104,111,119]
abbrev aUE:List UInt8:=[120,108,105,110,107,58,116,121,112,101]
abbrev aUF:List UInt8:=[111,112,116,103,114,111,117,112,32,111,112,116,105,111,110]
abbrev aUG:List UInt8:=[116,121,112,101]
abbrev aUH:List UInt8:=[109,97,114,113,117,101,101]
abbrev aUI:List UInt8:=[114,117,98,121]
abbrev aUJ:List UInt8:=[110,111,102,114,97,109,101,115,32,115,116,121,108,101]
abbrev aUK:List UInt8:=[100,101,102,105,110,105,116,105,111,110,117,114,108]
abbrev aUL:List UInt8:=[120,109,108,58,115,112,97,99,101]
abbrev aUM:List UInt8:=[100,101,102,105,110,105,116,105,111,110,85,82,76]
abbrev aUN:List UInt8:=[104,101,97,100,32,110,111,115,99,114,105,112,116]
abbrev aUO:List UInt8:=[97,100,100,114,101,115,115,32,100,105,118,32,112]
abbrev aUP:List UInt8:=[114,116,99]
abbrev aUQ:List UInt8:=[97,112,112,108,101,116]
abbrev aUR:List UInt8:=[115,111,117,114,99,101]
abbrev aUS:List UInt8:=[105,102,114,97,109,101]
abbrev aUT:List UInt8:=[110,111,102,114,97,109,101,115]
abbrev aUU:List UInt8:=[120,109,108,58,108,97,110,103]
abbrev aUV:List UInt8:=[98,97,115,101,102,111,110,116]
abbrev aUW:List UInt8:=[111,98,106,101,99,116]
abbrev aUX:List UInt8:=[112,114,101,32,108,105,115,116,105,110,103]
abbrev aUY:List UInt8:=[114,98,32,114,116,99,32,114,112,32,114,116]
abbrev aUZ:List UInt8:=[110,111,115,99,114,105,112,116,32,98,114]
abbrev aU0:List UInt8:=[98,103,115,111,117,110,100]
abbrev aU1:List UInt8:=[115,116,121,108,101]
abbrev aU2:List UInt8:=[97,100,100,114,101,115,115]
abbrev aU3:List UInt8:=[97,114,99,114,111,108,101]
abbrev aU4:List UInt8:=[109,97,116,104]
abbrev aU5:List UInt8:=[97,99,116,117,97,116,101]
abbrev aU6:List UInt8:=[98,108,111,99,107,113,117,111,116,101]
abbrev aU7:List UInt8:=[102,105,103,99,97,112,116,105,111,110]
abbrev aU8:List UInt8:=[112,32,108,105,32,100,100,32,100,116]
abbrev aU9:List UInt8:=[112,97,114,97,109]
abbrev aVa:List UInt8:=[116,114,97,99,107]
abbrev aVb:List UInt8:=[116,101,120,116,47,104,116,109,108]
abbrev aVc:List UInt8:=[99,111,108]
abbrev aVd:List UInt8:=[104,116,109,108,32,98,111,100,121]
abbrev aVe:List UInt8:=[102,105,101,108,100,115,101,116]
abbrev aVf:List UInt8:=[100,101,115,99]
abbrev aVg:List UInt8:=[101,110,99,111,100,105,110,103]
abbrev aVh:List UInt8:=[120,108,105,110,107]
abbrev aVi:List UInt8:=[109,97,116,104,32,115,118,103]
abbrev aVj:List UInt8:=[108,105,32,100,100,32,100,116]
abbrev aVk:List UInt8:=[100,100,32,100,116]
abbrev aVm:List UInt8:=[115,112,97,99,101]
abbrev aVr:List UInt8:=[120,109,112]
abbrev aVs:List UInt8:=[100,105,118]
abbrev aVt:List UInt8:=[104,114,101,102]
abbrev aVu:List UInt8:=[114,111,108,101]
abbrev aVv:List UInt8:=[115,104,111,119]
abbrev aVw:List UInt8:=[108,105,110,107]
theorem Ab{p:Prop}(h:p:=by omega):p:=h
theorem Ax{p:Prop}(h:p:=by simp):p:=h
theorem AM{p:Prop}(h:p:=by decide):p:=h
theorem Cz{p:Prop}(h:p:=by decide +kernel):p:=h
theorem Gx{p:Prop}(h:p:=by simp only; omega):p:=h
theorem Ei{p:Prop}(h:p:=by simp; omega):p:=h
theorem It{p:Prop}(h:p:=by simp[Go.Op.operands]):p:=h
theorem QU{p:Prop}(h:p:=by simp[Go.Value.cells,Go.Value.oneCell']):p:=h
section
section
namespace Go.Am
abbrev Ah:=List UInt8
inductive Aa where
 |bool (b:Bool)
 |int (k:IntKind) (n:Int)
 |str (s:Ah)
 |ptr (p:Option (Nat×Nat))
 |BR (cells:List Aa)
 |sl (size:Nat) (Aw:List (List Aa))
 |slnil
 |H5 (size:Nat)
 |C3 (id off len size:Nat)
 |map (m:Option Nat)
 |func (fn:Fn) (first captured:List Aa)
 |nilFunc
 |iface (t:TypeId) (v:Aa)
 |nilIface
 |agg (cells:List Aa)
 |tuple (vs:List Aa)
 deriving Inhabited
mutual
def Aa.beq:Aa->Aa->Bool
 | .bool a,.bool b=>a==b
 | .int k a,.int l b=>k==l&&a==b
 | .str a,.str b=>a==b
 | .ptr a,.ptr b=>a==b
 | .BR a,.BR b=>Aa.Rx a b
 | .sl n a,.sl m b=>n==m&&Aa.Ry a b
 | .slnil,.slnil=>true
 | .H5 a,.H5 b=>a==b
 | .C3 a b c d,.C3 a' b' c' e=>a==a'&&b==b'&&c==c'&&d==e
 | .map a,.map b=>a==b
 | .func f a b,.func f' a' b'=>f==f'&&Aa.Rx a a'&&Aa.Rx b b'
 | .nilFunc,.nilFunc=>true
 | .iface t a,.iface t' a'=>t==t'&&Aa.beq a a'
 | .nilIface,.nilIface=>true
 | .agg a,.agg b=>Aa.Rx a b
 | .tuple a,.tuple b=>Aa.Rx a b
 |_,_=>false
def Aa.Rx:List Aa->List Aa->Bool
 |[],[]=>true
 |a::x,b::y=>Aa.beq a b&&Aa.Rx x y
 |_,_=>false
def Aa.Ry:List (List Aa)->List (List Aa)->Bool
 |[],[]=>true
 |a::x,b::y=>Aa.Rx a b&&Aa.Ry x y
 |_,_=>false
end
def Aa.cells:Aa->List Aa
 | .agg cs=>cs
 | .tuple _=>[]
 |v=>[v]
inductive ED where
 |cells (cs:List Aa)
 |map (es:List (Aa×Aa))
 |DF
 deriving Inhabited
abbrev Ai:=List ED
inductive gw where
 |copy (size:Nat)
 |clear (size:Nat) (zero:List Aa)
 |zA (size:Nat) (lo hi:Bool)
 |lZ (size:Nat)
 |aEh (t:TypeId)
 |gx (zero:Aa) (ok:Bool)
 |Nt (zero:Aa)
 |VB (zero:Aa)
 |J5
 |UH
 |zB
 |S8 (g:Ai->List Aa->Option (Ai×Aa))
def gw.aEi:gw->Bool
 | .lZ _| .clear _ _| .J5| .UH=>true
 |_=>false
inductive D0 where
 |undef
 |skip
 |val (v:Aa)
 |OD (b:Bool)
 |BK (v:Aa)
 |box (ver:Nat) (cells:List Aa) (BK:List Nat)
 |EU (s off:Nat)
 deriving Inhabited
abbrev BG:=List D0
def BG.at(U:BG)(s:Nat):D0:=U.getD s .undef
def D0.GZ:D0->Option Aa
 | .val v| .BK v=>some v
 | .OD b=>some (.bool b)
 |_=>none
inductive FK where
 |b|i|s
 deriving DecidableEq,Inhabited
inductive NK where
 |sl|fn|mp
 deriving DecidableEq,Inhabited
inductive X3 where
 |int (op:BinOp)
 |str (op:BinOp)
 |beq (neg:Bool)
 |geq (neg:Bool) (ks:List FK)
 |Qp (neg:Bool)
 |Ga (neg:Bool) (k:NK)
 |un (op:UnOp)
 |conv(k:IntKind)
 |pick
 |part (off:Nat) (n:Option Nat)
 |ŋ (len size:Nat) (n:Option Nat)
 |Rz
 |Fb (off:Nat)
 |FA (size:Nat)
 |T1 (len size:Nat)
 |len (isStr:Bool)
 |append (size bytes:Nat)
 |OM (size:Nat) (isStr lo hi:Bool)
 |ext (i:Nat)
 |LF
 |Ch (size:Nat)
 |H5 (size:Nat)
 |B6 (zero:List Aa) (places:List (Nat×Nat))
 |K4 (isMax:Bool)
 |X8
 |s2b
 |i2s
 deriving Inhabited
def ON:Value->Option Aa
 | .bool b=>some (.bool b)
 | .int k n=>some (.int k n)
 | .string s=>some (.str s.data.toList)
 | .pointer none=>some (.ptr none)
 | .slice none 0 0=>some .slnil
 | .map none=>some (.map none)
 | .func fn f c=>if f.size=0/\c.size=0 then some (.func fn [] []) else none
 | .nilFunc=>some .nilFunc
 | .nilIface=>some .nilIface
 |_=>none
def Lw:List Value->Option (List Aa)
 |[]=>some []
 |v::vs=>match ON v,Lw vs with
  |some a,some as=>some (a::as)
  |_,_=>none
def Ks:Value->Option Aa
 | .agg cs=>(Lw cs.toList).map .agg
 |v=>ON v
def PO:Sem Value->Option Value
 | .pure v=>some v
 |_=>none
def AO:Nat:=140737488355328
def qU(op:BinOp)(k:IntKind)(a:Int)(l:IntKind)(b:Int):Option Aa:=
 (PO (binOp op 0 (.int k a) (.int l b))).bind λv=>match v with
  | .int k n=>some (.int k n)
  | .bool b=>some (.bool b)
  |_=>none
def fF(op:BinOp)(a b:Ah):Option Aa:=
 match op with
 | .add=>if a.length+b.length<=9223372036854775807 then some (.str (a++b)) else none
 | .eql=>some (.bool (a==b))
 | .neq=>some (.bool (!(a==b)))
 | .lss=>some (.bool (Op.bytesLess a b))
 | .leq=>some (.bool (Op.bytesLess a b||a==b))
 | .gtr=>some (.bool (!(Op.bytesLess a b||a==b)))
 | .geq=>some (.bool (!(Op.bytesLess a b)))
 |_=>none
def LG:FK->Aa->Aa->Option Bool
 | .b,.bool a,.bool b=>some (a==b)
 | .i,.int k a,.int l b=>if k=l then some (a==b) else none
 | .s,.str a,.str b=>some (a==b)
 |_,_,_=>none
def DO:List FK->List Aa->List Aa->Option Bool
 |[],[],[]=>some true
 |k::ks,a::x,b::y=>match LG k a b,DO ks x y with
  |some e,some es=>some (e&&es)
  |_,_=>none
 |_,_,_=>none
def qV:Aa->Aa->Option Bool
 | .ptr none,.ptr b=>some b.isNone
 | .ptr (some _),.ptr none=>some false
 | .ptr (some a),.ptr (some b)=>if a=b then some true else none
 | .ptr none,.BR _=>some false
 | .BR _,.ptr none=>some false
 |_,_=>none
def qW:NK->Aa->Aa->Option Bool
 | .sl,.slnil,.slnil=>some true
 | .sl,.slnil,.sl _ _=>some false
 | .sl,.sl _ _,.slnil=>some false
 | .sl,.slnil,.H5 _=>some false
 | .sl,.H5 _,.slnil=>some false
 | .sl,.slnil,.C3 _ _ _ _=>some false
 | .sl,.C3 _ _ _ _,.slnil=>some false
 | .fn,.nilFunc,.nilFunc=>some true
 | .fn,.nilFunc,.func _ _ _=>some false
 | .fn,.func _ _ _,.nilFunc=>some false
 | .mp,.map none,.map b=>some b.isNone
 | .mp,.map (some _),.map none=>some false
 |_,_,_=>none
def E0(cs:List Aa)(off:Nat):Option Nat->Option Aa
 |none=>cs[off]?
 |some n=>if off+n<=cs.length then some (.agg ((cs.drop off).take n)) else none
def LH(n:Int)(len:Nat):Option Nat:=if 0<=n/\n<len then some n.toNat else none
def Ey(n:Int)(top:Nat):Option Nat:=if 0<=n/\n<=top then some n.toNat else none
def Dz(lo hi:Bool)(len:Nat)(as:List Aa):Option (Nat×Nat):=
 match lo,hi with
 |false,false=>match as with
  |[]=>some (0,len)
  |_=>none
 |false,true=>match as with
  |[.int _ h]=>(Ey h len).map λh=>(0,h)
  |_=>none
 |true,false=>match as with
  |[.int _ l]=>(Ey l len).map λl=>(l,len)
  |_=>none
 |true,true=>match as with
  |[.int _ l,.int _ h]=>(Ey h len).bind λh=>(Ey l h).map λl=>(l,h)
  |_=>none
def Mk:List (List Aa)->Option Ah
 |[]=>some []
 |[.int .u8 n]::rs=>(Mk rs).map λl=>n.toNat.toUInt8::l
 |_=>none
def CY(s:Ah):List (List Aa):=s.map λb=>[.int .u8 b.toNat]
def Dr(size bytes:Nat)(s:Aa)(Aw:List (List Aa)):Option Aa:=
 match Aw with
 |[]=>match s with
  | .slnil=>some .slnil
  | .H5 z=>if z=size then some (.H5 z) else none
  | .sl z r=>if z=size then some (.sl z r) else none
  |_=>none
 |Aw=>match s with
  | .slnil=>if Aw.length*bytes<=AO then some (.sl size Aw) else none
  | .H5 z=>if z=size/\Aw.length*bytes<=AO then some (.sl size Aw) else none
  | .sl z r=>if z=size/\(r.length+Aw.length)*bytes<=AO then some (.sl size (r++Aw)) else none
  |_=>none
def Br(cs:List Aa):List ((Nat×Nat)×Aa)->Option (List Aa)
 |[]=>some cs
 |((off,size),v)::rest=>if 0<size/\v.cells.length=size/\off+size<=cs.length then Br (cs.take off++v.cells++cs.drop (off+size)) rest else none
def ă(k:IntKind)(n:Int):Option Aa:=
 (PO (Op.unary .xor (.int k n))).bind λv=>match v with
  | .int k n=>some (.int k n)
  |_=>none
def Ō:UnOp->Aa->Option Aa
 | .not,.bool b=>some (.bool (!b))
 | .neg,.int k n=>some (.int k (k.wrap (0 -n)))
 | .xor,.int k n=>ă k n
 |_,_=>none
def VC(p:Aa)(off:Nat):Option Aa:=
 match p with
 | .BR cs=>some (.BR (cs.drop off))
 | .ptr (some (id,o))=>some (.ptr (some (id,o+off)))
 |_=>none
def elemOf(size:Nat)(s:Aa)(i:Int):Option Aa:=
 match s with
 | .sl z Aw=>if z=size then(if 0<=i then(Aw[i.toNat]?).map .BR else none) else none
 | .C3 id off len z=>if z=size then(LH i len).map λi=> .ptr (some (id,off+i*size)) else none
 |_=>none
def lenOf(isStr:Bool)(s:Aa):Option Aa:=
 match s with
 | .sl _ Aw=>if isStr then none else some (.int .i64 Aw.length)
 | .C3 _ _ n _=>if isStr then none else some (.int .i64 n)
 | .slnil=>if isStr then none else some (.int .i64 0)
 | .H5 _=>if isStr then none else some (.int .i64 0)
 | .str s=>if isStr then some (.int .i64 s.length) else none
 |_=>none
def H6(size bytes:Nat)(s x:Aa):Option Aa:=
 match x with
 | .slnil=>Dr size bytes s []
 | .H5 z=>if z=size then Dr size bytes s [] else none
 | .sl z Aw=>if z=size then Dr size bytes s Aw else none
 | .str x=>if size=1 then Dr size bytes s (CY x) else none
 |_=>none
def IY(size:Nat)(isStr lo hi:Bool)(s:Aa)(as:List Aa):Option Aa:=
 match s with
 | .str s=>if isStr then(Dz lo hi s.length as).map λ(l,h)=> .str ((s.take h).drop l) else none
 | .sl z Aw=>if isStr=false/\z=size then(Dz lo hi Aw.length as).map λ(l,h)=> .sl z ((Aw.take h).drop l) else none
 | .C3 id off n z=>if isStr=false/\z=size then(Dz lo hi n as).bind λ(l,h)=>if l<n then some (.C3 id (off+l*z) (h-l) z) else some (.sl z []) else none
 | .slnil=>if isStr then none else(Dz lo hi 0 as).map λ_=> .slnil
 |_=>none
def fG:Aa->Option Aa
 | .ptr (some p)=>some (.ptr (some p))
 | .BR cs=>some (.BR cs)
 | .func (.func f) a b=>some (.func (.func f) a b)
 |_=>none
def Z7:Aa->Option Aa
 | .sl 1 Aw=>(Mk Aw).map .str
 | .slnil=>some (.str [])
 |_=>none
def Az(p:X3)(args:List Aa):Option Aa:=
 match p with
 | .int op=>match args with
  |[.int k a,.int l b]=>qU op k a l b
  |_=>none
 | .str op=>match args with
  |[.str a,.str b]=>fF op a b
  |_=>none
 | .beq neg=>match args with
  |[.bool a,.bool b]=>some (.bool ((a==b) != neg))
  |_=>none
 | .geq neg ks=>match args with
  |[.agg a,.agg b]=>(DO ks a b).map λe=> .bool (e != neg)
  |_=>none
 | .Qp neg=>match args with
  |[a,b]=>(qV a b).map λe=> .bool (e != neg)
  |_=>none
 | .Ga neg k=>match args with
  |[a,b]=>(qW k a b).map λe=> .bool (e != neg)
  |_=>none
 | .un op=>match args with
  |[v]=>Ō op v
  |_=>none
 | .conv k=>match args with
  |[.int _ n]=>some (.int k (k.wrap n))
  |_=>none
 | .i2s=>match args with
  |[.int _ n]=>some (.str (Utf8.encode n).data.toList)
  |_=>none
 | .pick=>match args with
  |[.bool c,a,b]=>some (if c then a else b)
  |_=>none
 | .part off n=>match args with
  |[.agg cs]=>E0 cs off n
  |_=>none
 | .ŋ len size n=>match args with
  |[.agg cs,.int _ i]=>(LH i len).bind λi=>E0 cs (i*size) n
  |_=>none
 | .Rz=>match args with
  |[.str s,.int _ i]=>if 0<=i then(s[i.toNat]?).map λb=> .int .u8 b.toNat else none
  |_=>none
 | .Fb off=>match args with
  |[p]=>VC p off
  |_=>none
 | .FA size=>match args with
  |[s,.int _ i]=>elemOf size s i
  |_=>none
 | .T1 len size=>match args with
  |[p,.int _ i]=>(LH i len).bind λi=>VC p (i*size)
  |_=>none
 | .len isStr=>match args with
  |[s]=>lenOf isStr s
  |_=>none
 | .append size bytes=>match args with
  |[s,x]=>H6 size bytes s x
  |_=>none
 | .OM size isStr lo hi=>match args with
  |s::as=>IY size isStr lo hi s as
  |_=>none
 | .ext i=>match args with
  |[.tuple vs]=>vs[i]?
  |_=>none
 | .LF=>match args with
  |[v]=>fG v
  |_=>none
 | .Ch size=>if args.all (λa=>a.cells.length==size)&&decide (args.length*size<=16777216) then some (.sl size (args.map (·.cells))) else none
 | .H5 size=>if args.isEmpty then some (.H5 size) else none
 | .B6 zero places=>if places.length=args.length then(Br zero (places.zip args)).map .agg else none
 | .K4 isMax=>match args with
  |[.int k a,.int l b]=>if k=l then some (.int k (if isMax then(if b>a then b else a) else(if b<a then b else a))) else none
  |_=>none
 | .X8=>match args with
  |[v]=>Z7 v
  |_=>none
 | .s2b=>match args with
  |[.str s]=>if s.length<=AO then some (.sl 1 (CY s)) else none
  |_=>none
inductive FG where
 |normal
 |exit (id:Nat)
 |ret
 deriving DecidableEq,Inhabited
inductive IT where
 |ret (x:FG) (vs:List Aa)
 |fail
 |op (o:X3) (args:List Aa) (k:Aa->IT)
 |cells (n:Nat) (v:Aa) (k:List Aa->IT)
 |AD (c:Aa) (t e:IT)
 |load (n:Option Nat) (p:Aa) (k:Aa->IT)
 |store (n:Nat) (p v:Aa) (k:IT)
 |alloc (n:Nat) (v:Aa) (k:Aa->IT)
 |call (f:FuncId) (args:List Aa) (k:Aa->IT)
 |D3 (fn:Aa) (args:List Aa) (k:Aa->IT)
 |Bn (f:FuncId) (args:List Aa) (k:Aa->IT)
 |loop (key:Nat) (init:List Aa) (body:List Aa->IT) (k:FG->List Aa->IT)
 |FZ (key:Nat) (t:IT) (k:FG->List Aa->IT)
 |same (a b:Aa) (k:IT)
 |MX (k:Aa->IT)
 |Hw (m key v:Aa) (k:IT)
 |LI (zero:Aa) (ok:Bool) (m key:Aa) (k:Aa->IT)
 |make (size bytes:Nat) (zero:List Aa) (len cap:Aa) (k:Aa->IT)
 |Je (size bytes:Nat) (s x:Aa) (k:Aa->IT)
 |EN (s:Aa) (k:Aa->IT)
 |UI (v:Aa) (k:Aa->IT)
 |H7 (off:Nat) (p:Aa) (k:IT)
 |FH (size bytes:Nat) (s x:Aa) (k:Aa->IT)
 |FX (size bytes:Nat) (s x:Aa) (k:Aa->IT)
 |mem (o:gw) (args:List Aa) (k:Aa->IT)
 |qX (f:FuncId) (args:List Aa) (k:Aa->IT)
 deriving Inhabited
def Aa.Me:Aa->Bool
 | .bool _| .int _ _| .str _=>true
 |_=>false
def Bj(h:Ai)(n:Option Nat):Aa->Option Aa
 | .BR cs=>E0 cs 0 n
 | .ptr (some (id,off))=>match h[id]? with
  |some (.cells cs)=>E0 cs off n
  |_=>none
 |_=>none
def CL(h:Ai)(n:Nat)(p v:Aa):Option Ai:=
 match p with
 | .ptr (some (id,off))=>match h[id]? with
  |some (.cells cs)=>if v.cells.length=n/\off+n<=cs.length then some (h.set id (.cells (cs.take off++v.cells++cs.drop (off+n)))) else none
  |_=>none
 |_=>none
def VD(h:Ai)(n:Nat)(v:Aa):Option (Ai×Aa):=
 if v.cells.length=n then some (h++[.cells v.cells],.ptr (some (h.length,0))) else none
def RA(s:Ah):List (Aa×Aa)->Option (Option Aa)
 |[]=>some none
 |(.str t,v)::es=>if s=t then some (some v) else RA s es
 |_=>none
def MY(s:Ah)(v:Aa):List (Aa×Aa)->Option (List (Aa×Aa))
 |[]=>some [(.str s,v)]
 |(.str t,v')::es=>if s=t then some ((.str s,v)::es) else(MY s v es).map λes=>(.str t,v')::es
 |_=>none
def Qq(h:Ai)(m k v:Aa):Option Ai:=
 match m,k with
 | .map (some id),.str s=>match h[id]? with
  |some (.map es)=>(MY s v es).map λes=>h.set id (.map es)
  |_=>none
 |_,_=>none
def S9(h:Ai)(m k:Aa):Option (Option Aa):=
 match m,k with
 | .map none,.str _=>some none
 | .map (some id),.str s=>match h[id]? with
  |some (.map es)=>RA s es
  |_=>none
 |_,_=>none
def Oj(h:Ai)(zero:Aa)(ok:Bool)(m k:Aa):Option Aa:=
 (S9 h m k).map λr=>match r with
  |some v=>if ok then .tuple [v,.bool true] else v
  |none=>if ok then .tuple [zero,.bool false] else zero
def RB(h:Ai)(size bytes:Nat)(zero:List Aa):Aa->Aa->Option (Ai×Aa)
 | .int .i64 n,.int .i64 c=>if 0<=n/\n<=c/\c.toNat*bytes<=AO/\zero.length=size then
  some (h++[.cells (List.replicate c.toNat zero).flatten],.C3 h.length 0 n.toNat size) else none
 |_,_=>none
def OO(size:Nat):Aa->Bool
 | .slnil=>true
 | .H5 z=>z==size
 | .sl z []=>z==size
 |_=>false
def MH(h:Ai)(size bytes:Nat)(s:Aa):Aa->Option (Ai×Aa)
 | .sl z Aw=>if OO size s then(match Aw with
   |[]=>some (h,s)
   |Aw=>if z=size/\Aw.length*bytes<=AO then some (h++[.cells Aw.flatten],.C3 h.length 0 Aw.length size) else none)
  else none
 | .slnil=>if OO size s then some (h,s) else none
 | .H5 z=>if OO size s&&z==size then some (h,s) else none
 |_=>none
def Ip(h:Ai):Aa->Option (Ai×Aa)
 | .str s=>if s.length<=AO then some (h++[.cells (s.map λb=> .int .u8 b.toNat)],.C3 h.length 0 s.length 1) else none
 |_=>none
def Cr(cs:List Aa)(z:Nat):Nat->Nat->List (List Aa)
 |_,0=>[]
 |off,n+1=>(cs.drop off).take z::Cr cs z (off+z) n
def Li(h:Ai):Aa->Option (Ai×Aa)
 | .C3 id off n z=>match h[id]? with
  |some (.cells cs)=>if off+n*z<=cs.length then some (h.set id .DF,.sl z (Cr cs z off n)) else none
  |_=>none
 |v=>some (h,v)
def LJ(h:Ai)(off:Nat)(p:Aa):Option Ai:=
 match p with
 | .ptr none=>some h
 | .ptr (some (id,o))=>match h[id]? with
  |some (.cells cs)=>match cs[o+off]? with
   |some v=>(Li h v).bind λ(h',v')=>match h'[id]? with
    |some (.cells GB)=>some (h'.set id (.cells (GB.set (o+off) v')))
    |_=>none
   |none=>none
  |_=>none
 |_=>none
def Ha(h:Ai)(size:Nat):Aa->Option (List (List Aa))
 | .slnil=>some []
 | .H5 z=>if z=size then some [] else none
 | .sl z Aw=>if z=size then some Aw else none
 | .str s=>if size=1 then some (CY s) else none
 | .C3 id off n z=>if z=size then match h[id]? with
   |some (.cells cs)=>if off+n*z<=cs.length then some (Cr cs z off n) else none
   |_=>none
  else none
 |_=>none
def GP(h:Ai)(size bytes:Nat)(s x:Aa):Option (Ai×Aa):=
 match Ha h size x with
 |none=>none
 |some []=>match s with
  | .slnil=>some (h,s)
  | .H5 z=>if z=size then some (h,s) else none
  | .C3 _ _ _ z=>if z=size then some (h,s) else none
  |_=>none
 |some Aw=>match s with
  | .slnil=>if Aw.length*bytes<=AO then some (h++[.cells Aw.flatten],.C3 h.length 0 Aw.length size) else none
  | .H5 z=>if z=size/\Aw.length*bytes<=AO then some (h++[.cells Aw.flatten],.C3 h.length 0 Aw.length size) else none
  | .C3 id off n z=>match h[id]? with
   |some (.cells cs)=>if z=size then
     (if off+(n+Aw.length)*z<=cs.length then some (h.set id (.cells (cs.take (off+n*z)++Aw.flatten++cs.drop (off+(n+Aw.length)*z))),.C3 id off (n+Aw.length) z)
     else if off=0/\n*z<=cs.length/\(n+Aw.length)*bytes<=AO then some (h.set id .DF++[.cells (cs.take (n*z)++Aw.flatten)],.C3 h.length 0 (n+Aw.length) z) else none)
    else none
   |_=>none
  |_=>none
def Qr(h:Ai)(size bytes:Nat)(s x:Aa):Option Aa:=(Ha h size x).bind (Dr size bytes s)
def qY(h:Ai)(size:Nat)(d x:Aa):Option (Ai×Aa):=
 match Ha h size x with
 |none=>none
 |some Aw=>match d with
  | .slnil=>if Aw.length=0 then some (h,.int .i64 0) else none
  | .C3 id off n z=>match h[id]? with
   |some (.cells cs)=>if z=size/\Aw.length<=n/\off+n*z<=cs.length then some (h.set id (.cells (cs.take off++Aw.flatten++cs.drop (off+Aw.length*z))),.int .i64 Aw.length) else none
   |_=>none
  |_=>none
def VE(h:Ai)(size:Nat)(zero:List Aa):Aa->Option (Ai×Aa)
 | .slnil=>some (h,.bool true)
 | .C3 id off n z=>match h[id]? with
  |some (.cells cs)=>if z=size/\zero.length=size/\off+n*z<=cs.length then some (h.set id (.cells (cs.take off++(List.replicate n zero).flatten++cs.drop (off+n*z))),.bool true) else none
  |_=>none
 |_=>none
def fH(h:Ai)(size:Nat)(lo hi:Bool)(s:Aa)(as:List Aa):Option (Ai×Aa):=
 match s with
 | .C3 id off n z=>match h[id]? with
  |some (.cells cs)=>if z=size/\hi=true/\off<=cs.length then(Dz lo hi ((cs.length-off)/z) as).bind λ(l,r)=>if l<(cs.length-off)/z then some (h,.C3 id (off+l*z) (r-l) z) else none else none
  |_=>none
 |_=>none
def VF(size:Nat):List Aa->Bool
 |[s,.int _ l,.int _ r,.int _ m]=>match s with
  | .C3 _ _ n z=>z=size&&decide (0<=l)&&decide (l<=r)&&decide (r<=m)&&decide (m<=n)
  | .sl z Aw=>z=size&&decide (0<=l)&&decide (l<=r)&&decide (r<=m)&&decide (m<=Aw.length)
  |_=>false
 |_=>false
def K5(k:Int):List (Aa×Aa)->Nat->Option (Option (Nat×Aa))
 |[],_=>some none
 |(.int .i64 t,v)::es,i=>if k=t then some (some (i,v)) else K5 k es (i+1)
 |_,_=>none
def l8(zero:Aa)(ok:Bool):Option (Nat×Aa)->Aa
 |some (_,v)=>if ok then .tuple [v,.bool true] else v
 |none=>if ok then .tuple [zero,.bool false] else zero
def qZ(h:Ai)(zero:Aa)(ok:Bool)(m k:Aa):Option (Ai×Aa):=
 match m,k with
 | .map none,.int .i64 _=>some (h,l8 zero ok none)
 | .map (some id),.int .i64 n=>match h[id]? with
  |some (.map es)=>(K5 n es 0).map λr=>(h,l8 zero ok r)
  |_=>none
 |_,_=>none
def Ve(h:Ai)(zero m k:Aa):Option (Ai×Aa):=
 match m,k with
 | .map (some id),.int .i64 n=>match h[id]? with
  |some (.map es)=>(K5 n es 0).map λr=>match r with
   |some (i,v)=>(h,.tuple [v,.int .i64 i])
   |none=>(h.set id (.map (es++[(k,zero)])),.tuple [zero,.int .i64 es.length])
  |_=>none
 |_,_=>none
def QM(k:Ah):List (Aa×Aa)->Nat->Option (Option (Nat×Aa))
 |[],_=>some none
 |(.str t,v)::es,i=>if k=t then some (some (i,v)) else QM k es (i+1)
 |_,_=>none
def Vf(h:Ai)(zero m k:Aa):Option (Ai×Aa):=
 match m,k with
 | .map (some id),.str n=>match h[id]? with
  |some (.map es)=>(QM n es 0).map λr=>match r with
   |some (i,v)=>(h,.tuple [v,.int .i64 i])
   |none=>(h.set id (.map (es++[(k,zero)])),.tuple [zero,.int .i64 es.length])
  |_=>none
 |_,_=>none
def RC(h:Ai)(m i v:Aa):Option (Ai×Aa):=
 match m,i with
 | .map (some id),.int .i64 n=>match h[id]? with
  |some (.map es)=>if 0<=n then match es[n.toNat]? with
   |some (k,_)=>some (h.set id (.map (es.set n.toNat (k,v))),.bool true)
   |none=>none
   else none
  |_=>none
 |_,_=>none
def gy(h:Ai)(m k v:Aa):Option (Ai×Aa):=
 match m,k with
 | .map (some id),.int .i64 n=>match h[id]? with
  |some (.map es)=>match K5 n es 0 with
   |some none=>some (h.set id (.map (es++[(.int .i64 n,v)])),.bool true)
   |_=>none
  |_=>none
 |_,_=>none
def PQ(h:Ai):List Aa->Option (Ai×Aa)
 |[.slnil,.int .i64 i,.sl 1 [[.int .i64 x]]]=>if i=0 then some (h++[.cells [.int .i64 x]],.C3 h.length 0 1 1) else none
 |[.C3 id 0 n 1,.int .i64 i,.sl 1 [[.int .i64 x]]]=>match h[id]? with
  |some (.cells cs)=>if 0<=i/\i.toNat<=n/\n<=cs.length/\(n+1)*8<=AO then some (h.set id .DF++[.cells (cs.take i.toNat++[.int .i64 x]++(cs.take n).drop i.toNat)],.C3 h.length 0 (n+1) 1) else none
  |_=>none
 |_=>none
def DS(o:gw)(h:Ai)(args:List Aa):Option (Ai×Aa):=
 match o with
 | .copy size=>match args with
  |[d,x]=>qY h size d x
  |_=>none
 | .clear size zero=>match args with
  |[s]=>VE h size zero s
  |_=>none
 | .zA size lo hi=>match args with
  |s::as=>fH h size lo hi s as
  |_=>none
 | .lZ size=>if VF size args then some (h,.bool true) else none
 | .aEh t=>match args with
  |[v]=>some (h,.iface t v)
  |_=>none
 | .gx zero ok=>match args with
  |[m,k]=>qZ h zero ok m k
  |_=>none
 | .Nt zero=>match args with
  |[m,k]=>Ve h zero m k
  |_=>none
 | .VB zero=>match args with
  |[m,k]=>Vf h zero m k
  |_=>none
 | .J5=>match args with
  |[m,i,v]=>RC h m i v
  |_=>none
 | .UH=>match args with
  |[m,k,v]=>gy h m k v
  |_=>none
 | .zB=>PQ h args
 | .S8 g=>g h args
def Ea(f:FuncId):FuncId:=if f<=99999 then f else f%100000
def CC:Aa->List Aa->Option (FuncId×List Aa)
 | .func (.func f) first captured,args=>if f<=99999 then some (f,first++args++captured) else none
 |_,_=>none
abbrev Jp:=FG×List Aa×Ai
def IT.step(fn:FuncId->List Aa->IT)(rec:IT->Ai->Option Jp):IT->Ai->Option Jp
 | .ret x vs,h=>some (x,vs,h)
 | .fail,_=>none
 | .op o args k,h=>match Az o args with
  |some v=>IT.step fn rec (k v) h
  |none=>none
 | .cells n v k,h=>if v.cells.length=n then IT.step fn rec (k v.cells) h else none
 | .AD c t e,h=>match c with
  | .bool true=>IT.step fn rec t h
  | .bool false=>IT.step fn rec e h
  |_=>none
 | .load n p k,h=>match Bj h n p with
  |some v=>IT.step fn rec (k v) h
  |none=>none
 | .store n p v k,h=>match CL h n p v with
  |some h'=>IT.step fn rec k h'
  |none=>none
 | .alloc n v k,h=>match VD h n v with
  |some (h',p)=>IT.step fn rec (k p) h'
  |none=>none
 | .call f args k,h=>match rec (fn f args) h with
  |some (.ret,[r],h')=>IT.step fn rec (k r) h'
  |_=>none
 | .D3 g args k,h=>match CC g args with
  |some (f,args)=>match rec (fn f args) h with
   |some (.ret,[r],h')=>IT.step fn rec (k r) h'
   |_=>none
  |none=>none
 | .Bn f args k,h=>if args.all Aa.Me then match rec (fn f args) [] with
   |some (.ret,[r],_)=>if r.Me then IT.step fn rec (k r) h else none
   |_=>none
  else none
 | .loop key init body k,h=>match IT.step fn rec (body init) h with
  |some (.normal,vs,h')=>rec (.loop key vs body k) h'
  |some (x,vs,h')=>IT.step fn rec (k x vs) h'
  |none=>none
 | .FZ _ t k,h=>match IT.step fn rec t h with
  |some (x,vs,h')=>IT.step fn rec (k x vs) h'
  |none=>none
 | .same a b k,h=>if Aa.beq a b then IT.step fn rec k h else none
 | .MX k,h=>IT.step fn rec (k (.map (some h.length))) (h++[.map []])
 | .Hw m key v k,h=>match Qq h m key v with
  |some h'=>IT.step fn rec k h'
  |none=>none
 | .LI zero ok m key k,h=>match Oj h zero ok m key with
  |some v=>IT.step fn rec (k v) h
  |none=>none
 | .make size bytes zero len cap k,h=>match RB h size bytes zero len cap with
  |some (h',v)=>IT.step fn rec (k v) h'
  |none=>none
 | .Je size bytes s x k,h=>match MH h size bytes s x with
  |some (h',v)=>IT.step fn rec (k v) h'
  |none=>none
 | .EN s k,h=>match Ip h s with
  |some (h',v)=>IT.step fn rec (k v) h'
  |none=>none
 | .UI v k,h=>match Li h v with
  |some (h',v')=>IT.step fn rec (k v') h'
  |none=>none
 | .H7 off p k,h=>match LJ h off p with
  |some h'=>IT.step fn rec k h'
  |none=>none
 | .FH size bytes s x k,h=>match GP h size bytes s x with
  |some (h',v)=>IT.step fn rec (k v) h'
  |none=>none
 | .FX size bytes s x k,h=>match Qr h size bytes s x with
  |some v=>IT.step fn rec (k v) h
  |none=>none
 | .mem o args k,h=>match DS o h args with
  |some (h',v)=>IT.step fn rec (k v) h'
  |none=>none
 | .qX f args k,h=>match rec (fn f args) [] with
  |some (.ret,[r],_)=>if r.Me then IT.step fn rec (k r) h else none
  |_=>none
def IT.run(fn:FuncId->List Aa->IT):Nat->IT->Ai->Option Jp
 |0=>λ_ _=>none
 |n+1=>IT.step fn (IT.run fn n)
end Go.Am
end
section
namespace Go.Am
inductive Sh where
 |val
 |BK
 |box (n:Nat) (BK:List Nat)
 deriving Inhabited
inductive rA where
 |OP|heap
 deriving DecidableEq,Inhabited
structure Fv where
 P:Program
 ō:FuncId->Nat->List (Nat×Sh)
 Ą:FuncId->Nat->Option (List (Nat×Sh))
 ą:FuncId->Nat->Option (List (Nat×Sh))
 kind:FuncId->Nat->rA
 I3:FuncId->Bool
 Ć:FuncId->Bool
 zC:FuncId->Nat->Bool
 Z8:FuncId->Nat->Bool
 g_:FuncId->Bool
 h_:FuncId->List (Nat×Nat)
 GC:Nat->Option (List Aa)
 Ŏ:FuncId->Option (List Aa->IT)
 alt:FuncId->FuncId->FuncId
 MI:FuncId->Bool
inductive Eg where
 |pure (ws:List (Nat×D0))
 |op (p:X3) (args:List Aa) (dst:Option Nat) (BK:Bool) (Dm:Option (Nat×Aa))
 |box (n:Nat) (v:Aa) (dst:Nat)
 |closure (fn:Fn) (first captured:List Aa) (froze:List (Nat×List Aa)) (dst:Nat)
 |MJ (s off n:Nat) (v:Aa) (BK:Bool) (Dm:Option (Nat×Aa)) (ver:Nat) (cells:List Aa) (owned:List Nat)
 |load (n:Option Nat) (p:Aa) (dst:Option Nat)
 |store (n:Nat) (p v:Aa)
 |alloc (n:Nat) (v:Aa) (dst:Option Nat)
 |call (f:FuncId) (args:List Aa) (dst:Option Nat)
 |D3 (g:Aa) (args:List Aa) (dst:Option Nat)
 |Bn (f:FuncId) (args:List Aa) (dst:Option Nat)
 |MX (dst:Option Nat)
 |Hw (m k v:Aa)
 |LI (zero:Aa) (ok:Bool) (m k:Aa) (dst:Option Nat)
 |make (size bytes:Nat) (zero:List Aa) (len cap:Aa) (dst:Option Nat)
 |Je (size bytes:Nat) (s x:Aa) (dst:Option Nat) (Dm:Option (Nat×Aa))
 |FH (size bytes:Nat) (s x:Aa) (dst:Option Nat)
 |FX (size bytes:Nat) (s x:Aa) (dst:Option Nat) (Dm:Option (Nat×Aa))
 |EN (s:Aa) (dst:Option Nat)
 |X8 (v:Aa) (dst:Option Nat)
 |mem (o:gw) (args:List Aa) (dst:Option Nat)
def BO(P:Program)(t:TypeId):Option Nat:=(P.info? t).map (·.size)
def Ju(P:Program)(t:TypeId):Option Nat:=(P.info? t).map (·.bytes)
def EW(P:Program)(t:TypeId):Option (Option Nat):=
 match P.underlying t with
 |some (.struct _)|some (.array _ _)=>(BO P t).map some
 |some _=>some none
 |none=>none
def GD(P:Program)(t:TypeId):Option Aa:=((P.info? t).bind (·.zero)).bind Ks
def VG(rec:TypeId->Option (List FK)):List Field->Nat->Option (List FK)
 |[],_=>some []
 |f::fs,off=>if f.name≠ "_"/\f.offset=off then match rec f.type with
   |some ks=>(VG rec fs (off+ks.length)).map (ks++·)
   |none=>none
  else none
def OQ(P:Program):Nat->TypeId->Option (List FK)
 |0,_=>none
 |d+1,t=>
  let one (k:FK):Option (List FK):=if BO P t=some 1 then some [k] else none
  match P.underlying t with
  |some .bool=>one .b
  |some (.int _)=>one .i
  |some .string=>one .s
  |some (.struct fs)=>match VG (OQ P d) fs.toList 0 with
   |some ks=>if BO P t=some ks.length/\P.stoodInHeld t=false then some ks else none
   |none=>none
  |_=>none
def H8(P:Program)(s:TypeId)(f:Nat):Option (Nat×Option Nat):=
 match P.underlying s with
 |some (.struct fs)=>match fs[f]? with
  |some fd=>match BO P fd.type,EW P fd.type with
   |some (_+1),some sh=>some (fd.offset,sh)
   |_,_=>none
  |none=>none
 |_=>none
def DL(C:Fv)(U:BG):Operand->Option D0
 | .tmp t=>some (U.at t)
 | .const (.bool b)=>some (.OD b)
 | .const (.slice none 0 0)=>some (.BK .slnil)
 | .const v=>(Ks v).map .val
 | .global g=>(C.GC g).map λcs=> .val (.BR cs)
 | .func f=>some (.val (.func (.func f) [] []))
def Ez(C:Fv)(U:BG)(x:Operand):Option Aa:=(DL C U x).bind D0.GZ
def Bm(C:Fv)(U:BG):List Operand->Option (List Aa)
 |[]=>some []
 |x::xs=>match Ez C U x,Bm C U xs with
  |some v,some vs=>some (v::vs)
  |_,_=>none
def ic(ops:List Oper)(d:Nat):Bool:=
 ops.any λo=>match o.op with
  | .call c=>(match c.callee with| .builtin .append=>true|_=>false)&&(match(c.args[0]?:Option Operand) with|some (.tmp t)=>t==d|_=>false)
  |_=>false
def H9:D0->Option D0
 | .val v=>some (.val v)
 | .OD b=>some (.OD b)
 | .BK v=>some (.val v)
 | .EU s o=>some (.EU s o)
 |_=>none
def RD(x:Operand)(v:Aa):List (Nat×D0):=
 match x with
 | .tmp s=>[(s,.val v)]
 |_=>[]
def J6(C:Fv)(U:BG)(x:Operand)(d:Nat)(take:Bool):Option Eg:=
 match x,DL C U x with
 | .tmp s,some (.box _ _ _)=>some (.pure [(d,.EU s 0)])
 | .const _,some sl=>some (.pure [(d,sl)])
 |x,some (.BK v)=>if take then some (.pure (RD x v++[(d,.BK v)])) else(H9 (.BK v)).map λs=> .pure [(d,s)]
 |_,some s=>(H9 s).map λs=> .pure [(d,s)]
 |_,none=>none
def VH(cs:List Aa):List Nat:=(List.range cs.length).filter λi=>match cs.getD i .nilIface with| .slnil=>true|_=>false
def MK(U:BG)(ds:List Nat):Bool:=U.all λs=>match s with| .EU s _=> !ds.contains s|_=>true
def BG.drop(U:BG)(ds:List Nat):BG:=match ds with|[]=>U|ds=>U.map λs=>match s with| .EU s o=>if ds.contains s then .undef else .EU s o|s=>s
def T2(C:Fv)(fid:FuncId)(t:TypeId)(v:Aa)(d:Nat):Option Eg:=
 match BO C.P t with
 |none=>none
 |some n=>if n=0 then none else match C.kind fid d with
  | .OP=>some (.box n v d)
  | .heap=>some (.alloc n v (some d))
inductive ŏ where
 |OP (s off ver:Nat) (cells:List Aa) (BK:List Nat)
 |ptr (p:Aa)
def FI(C:Fv)(U:BG)(x:Operand):Option ŏ:=
 match x,DL C U x with
 | .tmp s,some (.box ver cs ow)=>some (.OP s 0 ver cs ow)
 |_,some (.EU s o)=>match U.at s with
  | .box ver cs ow=>some (.OP s o ver cs ow)
  |_=>none
 |_,some s=>s.GZ.map .ptr
 |_,none=>none
def C4(U:BG):Operand->Option (Nat×Aa)
 | .tmp s=>match U.at s with
  | .BK v=>some (s,v)
  |_=>none
 |_=>none
def KB(C:Fv)(U:BG)(x:Operand):Bool:=match DL C U x with|some (.BK _)=>true|_=>false
def K6(C:Fv)(U:BG)(t:TypeId)(x:Operand)(d:Nat)(take:Bool):Option Eg:=
 match EW C.P t,FI C U x with
 |some n,some (.ptr p)=>some (.load n p (some d))
 |some none,some (.OP s o ver cs ow)=>
  if o<cs.length then
   let v:=cs.getD o .nilIface
   if ow.contains o&& !(ow.erase o).contains o&&take then some (.pure [(s,.box (ver+1) cs (ow.erase o)),(d,.BK v)])
   else some (.pure [(d,.val v)])
  else none
 |some (some n),some (.OP _ o _ cs _)=>if o+n<=cs.length then some (.pure [(d,.val (.agg ((cs.drop o).take n)))]) else none
 |_,_=>none
def IZ(C:Fv)(U:BG)(t:TypeId)(x y:Operand):Option Eg:=
 match BO C.P t,EW C.P t,FI C U x,Ez C U y with
 |some (n+1),_,some (.ptr p),some v=>some (.store (n+1) p v)
 |some (n+1),some sh,some (.OP s o ver cs ow),some v=>
  if o+(n+1)<=cs.length then
   let BK:=sh.isNone&&KB C U y
   some (.MJ s o (n+1) v BK (if BK then C4 U y else none) ver cs ow)
  else none
 |_,_,_,_=>none
def Ta(P:Program)(t:TypeId)(neg:Bool)(u:TypeDesc):Option X3:=
 match u with
 | .bool=>some (.beq neg)
 | .struct _=>if P.eqGuardType P.depth t=false then(OQ P 20 t).map (.geq neg) else none
 | .pointer e=>if(BO P e).getD 0=0 then none else some (.Qp neg)
 | .slice _=>some (.Ga neg .sl)
 | .func _ _ _=>some (.Ga neg .fn)
 | .map _ _=>some (.Ga neg .mp)
 |_=>none
def PR(P:Program)(op:BinOp)(t:TypeId):Option X3:=
 match P.underlying t with
 |some (.int _)=>some (.int op)
 |some .string=>some (.str op)
 |some u=>match op with
  | .eql=>Ta P t false u
  | .neq=>Ta P t true u
  |_=>none
 |none=>none
def Tb(p:X3)(dst:Option Nat):Option (List Aa)->Option Eg
 |some args=>some (.op p args dst false none)
 |none=>none
def Jv(P:Program)(t:TypeId):List (Nat×Operand)->Option (List (Nat×Nat))
 |[]=>some []
 |(i,_)::rest=>match P.underlying t with
  |some (.struct fs)=>match fs[i]? with
   |some f=>match BO P f.type,Jv P t rest with
    |some n,some r=>some ((f.offset,n)::r)
    |_,_=>none
   |none=>none
  |some (.array len e)=>if i<len then match BO P e,Jv P t rest with
    |some n,some r=>some ((i*n,n)::r)
    |_,_=>none
   else none
  |_=>none
def LK(P:Program)(t:TypeId):Bool:=
 match P.info? t with
 |some i=>match i.zero with
  |some z=>z.cells.size==i.size
  |none=>false
 |none=>false
def Vg(P:Program)(t:TypeId):Bool:=
 match P.underlying t with
 |some (.struct fs)=>fs.toList.all λf=>(BO P f.type).isSome
 |some (.array _ e)=>(BO P e).isSome
 |_=>false
def Tc(o:gw)(dst:Option Nat):Option (List Aa)->Option Eg
 |some args=>some (.mem o args dst)
 |none=>none
def QN(C:Fv)(fid:FuncId)(U:BG)(c:Call)(dst:Option Nat):Option Eg:=
 match c.callee with
 | .builtin .len=>match c.argTypes[0]? with
  |some t=>match C.P.underlying t with
   |some .string=>Tb (.len true) dst (Bm C U c.args.toList)
   |some (.slice _)=>Tb (.len false) dst (Bm C U c.args.toList)
   |_=>none
  |none=>none
 | .builtin .append=>match c.argTypes[0]?,c.argTypes[1]?,c.args.toList with
  |some t,some t',[s,x]=>match C.P.underlying t,C.P.underlying t' with
   |some (.slice e),some (.slice _)|some (.slice e),some .string=>match BO C.P e,Ju C.P e with
    |some (n+1),some (b+1)=>if LK C.P e then match Bm C U [s,x] with
      |some [v,u]=>if KB C U s then
        (if(dst.map (C.zC fid)).getD false then some (.Je (n+1) (b+1) v u dst (C4 U s))
        else if(dst.map (C.Z8 fid)).getD false then some (.FX (n+1) (b+1) v u dst (C4 U s))
        else some (.op (.append (n+1) (b+1)) [v,u] dst true (C4 U s)))
       else if(dst.map (C.zC fid)).getD false then some (.FH (n+1) (b+1) v u dst) else none
      |_=>none
     else none
    |_,_=>none
   |_,_=>none
  |_,_,_=>none
 | .builtin .copy=>match c.argTypes[0]?,c.argTypes[1]?,c.args.toList with
  |some t,some t',[s,x]=>match C.P.underlying t,C.P.underlying t' with
   |some (.slice e),some (.slice _)|some (.slice e),some .string=>match BO C.P e with
    |some (n+1)=>Tc (.copy (n+1)) dst (Bm C U [s,x])
    |_=>none
   |_,_=>none
  |_,_,_=>none
 | .builtin .clear=>match c.argTypes[0]?,c.args.toList with
  |some t,[s]=>match C.P.underlying t with
   |some (.slice e)=>match BO C.P e,GD C.P e with
    |some (n+1),some z=>Tc (.clear (n+1) z.cells) dst (Bm C U [s])
    |_,_=>none
   |_=>none
  |_,_=>none
 | .builtin .max=>if c.args.size=2 then Tb (.K4 true) dst (Bm C U c.args.toList) else none
 | .builtin .min=>if c.args.size=2 then Tb (.K4 false) dst (Bm C U c.args.toList) else none
 | .value (.func f)=>if C.MI f then(match c.args.toList with
  |[s,i,v]=>if KB C U v then Tc .zB dst (Bm C U [s,i,v]) else none
  |_=>none) else if Ea (C.alt fid f)=f then(Bm C U c.args.toList).map λargs=>if C.Ć (C.alt fid f) then .Bn (C.alt fid f) args dst else .call (C.alt fid f) args dst else none
 | .value g=>match Ez C U g,Bm C U c.args.toList with
  |some g,some args=>some (.D3 g args dst)
  |_,_=>none
 |_=>none
def VI(C:Fv)(src dst:TypeId):Option (Option X3):=
 match C.P.underlying src,C.P.underlying dst with
 |some (.int _),some (.int k)=>some (some (.conv k))
 |some (.int _),some .string=>some (some .i2s)
 |some .string,some .string=>some none
 |some (.slice e),some .string=>match C.P.underlying e with
  |some (.int .u8)=>some (some .X8)
  |_=>none
 |some .string,some (.slice e)=>match C.P.underlying e,BO C.P e,Ju C.P e with
  |some (.int .u8),some 1,some 1=>some (some .s2b)
  |_,_,_=>none
 |_,_=>none
def FJ(C:Fv)(U:BG):List Operand->Option (List Aa×List (Nat×List Aa))
 |[]=>some ([],[])
 |x::xs=>match FJ C U xs with
  |none=>none
  |some (vs,fz)=>match x,DL C U x with
   | .tmp s,some (.box _ cs _)=>if(fz.map (·.1)).contains s then none else some (.BR cs::vs,(s,cs)::fz)
   |_,some sl=>match sl.GZ with
    |some v=>some (v::vs,fz)
    |none=>none
   |_,none=>none
def FL(C:Fv)(fid:FuncId)(ops:List Oper)(U:BG)(o:Oper):Option Eg:=
 match o.op with
 | .move x=>match o.dst with
  |some d=>J6 C U x d (ic ops d)
  |none=>none
 | .assign x=>match o.dst with
  |some d=>J6 C U x d true
  |none=>none
 | .pick c a b=>match DL C U c,o.dst with
  |some (.OD true),some d=>J6 C U a d false
  |some (.OD false),some d=>J6 C U b d false
  |_,dst=>Tb .pick dst (Bm C U [c,a,b])
 | .alloc t=>match o.dst,GD C.P t with
  |some d,some z=>match C.kind fid d with
   | .OP=>if BO C.P t=some z.cells.length/\z.cells≠[] then some (.pure [(d,.box 0 z.cells (VH z.cells))]) else none
   |_=>T2 C fid t z d
  |_,_=>none
 | .box t x=>match o.dst,Ez C U x with
  |some d,some v=>T2 C fid t v d
  |_,_=>none
 | .build t parts=>match GD C.P t,Jv C.P t parts.toList with
  |some z,some ps=>if Vg C.P t then Tb (.B6 z.cells ps) o.dst (Bm C U (parts.toList.map (·.2))) else none
  |_,_=>none
 | .buildSlice t len parts=>match C.P.underlying t with
  |some (.slice e)=>match BO C.P e with
   |some (n+1)=>if parts.toList.map (·.1)=List.range len/\LK C.P e=true then if len=0/\(o.dst.map (C.zC fid)).getD false=true then some (.op (.H5 (n+1)) [] o.dst true none) else(Bm C U (parts.toList.map (·.2))).map λargs=> .op (.Ch (n+1)) args o.dst true none else none
   |_=>none
  |_=>none
 | .load t x=>match o.dst with
  |some d=>K6 C U t x d (ic ops d)
  |none=>none
 | .store t x y=>match o.dst with
  |none=>IZ C U t x y
  |some _=>none
 | .nilCheck x=>match x,DL C U x,o.dst with
  | .tmp s,some (.box _ _ _),some d=>some (.pure [(d,.EU s 0)])
  |_,some (.EU s k),some d=>some (.pure [(d,.EU s k)])
  |x,_,dst=>Tb .LF dst (Bm C U [x])
 | .binOp op t x y _=>match PR C.P op t with
  |some p=>Tb p o.dst (Bm C U [x,y])
  |none=>none
 | .unOp op _ x=>Tb (.un op) o.dst (Bm C U [x])
 | .convert src dst x=>match VI C src dst with
  |some (some .X8)=>(Ez C U x).map λv=> .X8 v o.dst
  |some (some .s2b)=>if(o.dst.map (C.zC fid)).getD false then(Ez C U x).map λv=> .EN v o.dst else Tb .s2b o.dst (Bm C U [x])
  |some (some p)=>Tb p o.dst (Bm C U [x])
  |_=>none
 | .makeFunc fn first captured=>match o.dst,Bm C U first.toList,FJ C U captured.toList with
  |some d,some a,some (b,fz)=>some (.closure fn a b fz d)
  |_,_,_=>none
 | .makeMap _ none=>some (.MX o.dst)
 | .makeSlice t l c=>match C.P.underlying t with
  |some (.slice e)=>match BO C.P e,Ju C.P e,GD C.P e,Ez C U l,Ez C U c with
   |some (n+1),some (b+1),some z,some l,some c=>some (.make (n+1) (b+1) z.cells l c o.dst)
   |_,_,_,_,_=>none
  |_=>none
 | .insert t m k v| .mapUpdate t m k v=>match C.P.underlying t with
  |some (.map kt _)=>match o.dst,C.P.underlying kt,Bm C U [m,k,v] with
   |none,some .string,some [m,k,v]=>some (.Hw m k v)
   |none,some (.int .i64),some [m,k,v]=>some (.mem .UH [m,k,v] none)
   |_,_,_=>none
  |_=>none
 | .lookup t m k ok=>match C.P.underlying t with
  |some (.map kt e)=>match C.P.underlying kt,GD C.P e,Bm C U [m,k] with
   |some .string,some z,some [m,k]=>some (.LI z ok m k o.dst)
   |some (.int .i64),some z,some [m,k]=>some (.mem (.gx z ok) [m,k] o.dst)
   |_,_,_=>none
  |_=>none
 | .slice t x (some lo) (some hi) (some mx)=>match C.P.underlying t with
  |some (.slice e)=>match BO C.P e with
   |some (n+1)=>Tc (.lZ (n+1)) o.dst (Bm C U [x,lo,hi,mx])
   |_=>none
  |_=>none
 | .makeInterface t x=>match C.P.underlying t with
  |some (.interface _)=>none
  |some _=>Tc (.aEh t) o.dst (Bm C U [x])
  |none=>none
 | .mapEntry t m k=>match C.P.underlying t with
  |some (.map kt e)=>match C.P.underlying kt,GD C.P e with
   |some (.int .i64),some z=>Tc (.Nt z) o.dst (Bm C U [m,k])
   |some .string,some z=>Tc (.VB z) o.dst (Bm C U [m,k])
   |_,_=>none
  |_=>none
 | .entryStore _ m s v=>match o.dst with
  |none=>Tc .J5 none (Bm C U [m,s,v])
  |some _=>none
 | .slice t x lo hi none=>match C.P.underlying t with
  |some .string=>Tb (.OM 0 true lo.isSome hi.isSome) o.dst (Bm C U (x::(lo.toList++hi.toList)))
  |some (.slice e)=>match BO C.P e with
   |some (n+1)=>if(o.dst.map (C.zC fid)).getD false then Tc (.zA (n+1) lo.isSome hi.isSome) o.dst (Bm C U (x::(lo.toList++hi.toList)))
    else Tb (.OM (n+1) false lo.isSome hi.isSome) o.dst (Bm C U (x::(lo.toList++hi.toList)))
   |_=>none
  |_=>none
 | .fieldAddr t x f=>match H8 C.P t f,o.dst with
  |some (off,_),some d=>match x,DL C U x with
   | .tmp s,some (.box _ _ _)=>some (.pure [(d,.EU s off)])
   |_,some (.EU s k)=>some (.pure [(d,.EU s (k+off))])
   |x,_=>Tb (.Fb off) (some d) (Bm C U [x])
  |_,_=>none
 | .field t x f=>match H8 C.P t f with
  |some (off,sh)=>Tb (.part off sh) o.dst (Bm C U [x])
  |none=>none
 | .indexAddr t x i=>match C.P.underlying t with
  |some (.slice e)=>match BO C.P e with
   |some (n+1)=>Tb (.FA (n+1)) o.dst (Bm C U [x,i])
   |_=>none
  |some (.array len e)=>match BO C.P e with
   |some (n+1)=>if len<=1 then none else Tb (.T1 len (n+1)) o.dst (Bm C U [x,i])
   |_=>none
  |_=>none
 | .index t x i=>match C.P.underlying t with
  |some .string=>Tb .Rz o.dst (Bm C U [x,i])
  |some (.array len e)=>match BO C.P e,EW C.P e with
   |some (n+1),some sh=>Tb (.ŋ len (n+1) sh) o.dst (Bm C U [x,i])
   |_,_=>none
  |_=>none
 | .extract x i=>Tb (.ext i) o.dst (Bm C U [x])
 | .call c=>QN C fid U c o.dst
 |_=>none
def BG.DW(U:BG):List (Nat×D0)->BG
 |[]=>U
 |(s,x)::ws=>BG.DW (U.set s x) ws
def BG.put(U:BG)(dst:Option Nat)(x:D0):BG:=
 match dst with
 |some d=>U.set d x
 |none=>U
def BG.Dm(U:BG):Option (Nat×Aa)->BG
 |some (s,v)=>U.set s (.val v)
 |none=>U
def VJ(n:Nat)(cs:List Aa):List Aa:=(List.range n).map λi=>cs.getD i .nilIface
def VK(cs:List Aa)(off n:Nat)(vs:List Aa):List Aa:=cs.take off++vs++cs.drop (off+n)
def RE(owned:List Nat)(off n:Nat)(BK:Bool):List Nat:=
 let rest:=owned.filter λo=> !(off<=o&&o<off+n)
 if BK then off::rest else rest
def Eg.LL(C:Fv)(U:BG)(K:BG->IT):Eg->IT
 | .pure ws=>K (U.DW ws)
 | .op p args dst BK e=> .op p args λv=>K ((U.Dm e).put dst (if BK then .BK v else .val v))
 | .box n v d=> .cells n v λcs=>K (U.set d (.box 0 (VJ n cs) []))
 | .closure fn a b fz d=>K ((U.DW (fz.map λ(s,cs)=>(s,.val (.BR cs)))).set d (.val (.func fn a b)))
 | .MJ s off n v BK e ver cells owned=> .cells n v λvs=>K ((U.Dm e).set s (.box (ver+1) (VK cells off n (VJ n vs)) (RE owned off n BK)))
 | .load n p dst=> .load n p λv=>K (U.put dst (.val v))
 | .store n p v=> .store n p v (K U)
 | .alloc n v dst=> .alloc n v λp=>K (U.put dst (.val p))
 | .call f args dst=> .call f args λr=>K (U.put dst (if C.I3 f then .BK r else .val r))
 | .D3 g args dst=> .D3 g args λr=>K (U.put dst (.val r))
 | .Bn f args dst=> .Bn f args λr=>K (U.put dst (.val r))
 | .MX dst=> .MX λm=>K (U.put dst (.val m))
 | .Hw m k v=> .Hw m k v (K U)
 | .LI z ok m k dst=> .LI z ok m k λv=>K (U.put dst (.val v))
 | .make z b zero l c dst=> .make z b zero l c λv=>K (U.put dst (.val v))
 | .Je z b s x dst e=> .Je z b s x λv=>K ((U.Dm e).put dst (.val v))
 | .FH z b s x dst=> .FH z b s x λv=>K (U.put dst (.val v))
 | .FX z b s x dst e=> .FX z b s x λv=>K ((U.Dm e).put dst (.BK v))
 | .EN s dst=> .EN s λv=>K (U.put dst (.val v))
 | .X8 v dst=> .UI v λv=> .op .X8 [v] λu=>K (U.put dst (.val u))
 | .mem o args dst=> .mem o args λv=>K (U.put dst (if o.aEi then .undef else .val v))
def Eg.news:Eg->List Nat
 | .pure ws=>ws.filterMap λ(s,x)=>match x with| .box 0 _ _=>some s|_=>none
 | .box _ _ d=>[d]
 | .closure _ _ _ fz _=>fz.map (·.1)
 |_=>[]
inductive aEk where
 |MZ (run:Bool)
 |ask (mA:Nat) (v:Aa) (want:Bool)
 |Ő
def Iq(ops:List Oper)(U:BG)(o:Oper):aEk:=
 match o.guard with
 |none=> .MZ true
 |some (j,want)=>match(ops[j]?).bind (·.dst) with
  |some s=>match U.at s with
   | .OD b=> .MZ (b==want)
   | .val v=> .ask s v want
   | .skip=> .MZ false
   |_=> .Ő
  |none=> .Ő
def ij(C:Fv)(fid:FuncId)(ops:List Oper)(U:BG)(o:Oper)(K:BG->IT):IT:=
 match FL C fid ops U o with
 |some r=>r.LL C (U.drop r.news) K
 |none=> .fail
def Td(C:Fv)(fid:FuncId)(ops:List Oper)(U:BG)(o:Oper)(K:BG->IT):IT:=
 match Iq ops U o with
 | .MZ true=>ij C fid ops U o K
 | .MZ false=>K (U.put o.dst .skip)
 | .ask s v want=>
  let t:=if want then ij C fid ops (U.set s (.OD true)) o K else K (BG.put (U.set s (.OD true)) o.dst .skip)
  let e:=if want then K (BG.put (U.set s (.OD false)) o.dst .skip) else ij C fid ops (U.set s (.OD false)) o K
  .AD v t e
 | .Ő=> .fail
def Te:FuncId->Bool
 |91=>true
 |_=>false
def RF(C:Fv)(U:BG)(o:Oper):List (Nat×List Aa):=
 match o.op with
 | .call c=>(match c.callee with
  | .value (.func f)=>if Te f then(match FJ C U c.args.toList with|some (_,fz)=>fz|none=>[]) else[]
  |_=>[])
 |_=>[]
def ő(C:Fv)(U:BG)(o:Oper):BG:=(U.drop ((RF C U o).map (·.1))).DW ((RF C U o).map λ(s,cs)=>(s,.val (.BR cs)))
def rB(C:Fv)(fid:FuncId)(ops:List Oper):List Oper->BG->(BG->IT)->IT
 |[],U,K=>K U
 |o::rest,U,K=>Td C fid ops (ő C U o) o λU=>rB C fid ops rest U K
end Go.Am
end
section
namespace Go.Am
def Oper.UJ(o:Oper):List Nat:=o.after.toList.filterMap λe=>if Region.binds .any e then some e.on else none
def bit(i:Nat):Nat:=2^i
def KC(DA:List Nat):List Oper->List Nat
 |[]=>DA
 |o::rest=>KC (DA++[(Oper.UJ o).foldl (λm e=>m|||bit e|||DA.getD e 0) 0]) rest
def VL(ops:List Oper):List Nat:=KC [] ops
def D4(an:List Nat)(i j:Nat):Bool:=(an.getD j 0).testBit i
def ć(o:Oper):Bool:=
 match o.op with
 | .call c=>(match c.callee with| .builtin .copy| .builtin .clear=>true| .builtin _=>false|_=>true)
 | .store _ _ _| .insert _ _ _ _| .mapUpdate _ _ _ _| .makeMap _ _| .makeSlice _ _ _| .mapEntry _ _ _| .entryStore _ _ _ _=>true
 |_=>false
def VM(all:List Oper)(DA:List Nat):List Oper->List Nat
 |[]=>DA
 |o::rest=>VM all (DA++[(Oper.UJ o).foldl (λm e=>Nat.max m (DA.getD e 0+(match all[e]? with|some x=>if ć x then 1 else 0|none=>0))) 0]) rest
def xw(ops:List Oper):List Nat:=
 let st:=VM ops [] ops
 let idx:=List.range ops.length
 let Rv:=λi=>match ops[i]? with|some o=>ć o|none=>false
 (List.range (ops.length+1)).flatMap λs=>(idx.filter λi=>st.getD i 0==s&& !Rv i)++(idx.filter λi=>st.getD i 0==s&&Rv i)
structure FP where
 rs:List Nat
 wf:List Nat
 hl:Bool
 Rv:Bool
 news:List Nat
 lr:List Nat
 Tf:Bool
 deriving Inhabited
def Jw(xs:List Operand):List Nat:=xs.filterMap λ| .tmp t=>some t|_=>none
def Nu(C:Fv)(U:BG)(x:Operand):Option Nat:=
 match FI C U x with
 |some (.OP s _ _ _ _)=>some s
 |_=>none
def HF(C:Fv)(U:BG)(o:Oper):List Nat:=
 match o.op with
 | .load _ x=>(Nu C U x).toList
 | .store _ x _=>(Nu C U x).toList
 | .makeFunc _ _ captured=>Jw captured.toList
 |_=>[]
def Eg.wf:Eg->List Nat
 | .pure ws=>ws.map (·.1)
 | .op _ _ dst _ a=>dst.toList++(a.map (·.1)).toList
 | .box _ _ d=>[d]
 | .closure _ _ _ fz d=>d::fz.map (·.1)
 | .MJ s _ _ _ _ a _ _ _=>s::(a.map (·.1)).toList
 | .load _ _ dst| .alloc _ _ dst| .call _ _ dst| .D3 _ _ dst| .Bn _ _ dst| .MX dst| .LI _ _ _ _ dst| .make _ _ _ _ _ dst| .EN _ dst| .X8 _ dst| .FH _ _ _ _ dst| .mem _ _ dst=>dst.toList
 | .Je _ _ _ _ dst a| .FX _ _ _ _ dst a=>dst.toList++(a.map (·.1)).toList
 | .store _ _ _| .Hw _ _ _=>[]
def Eg.hl:Eg->Bool
 | .load _ _ _| .LI _ _ _ _ _=>true
 |_=>false
def Eg.Rv:Eg->Bool
 | .store _ _ _| .alloc _ _ _| .call _ _ _| .D3 _ _ _| .MX _| .Hw _ _ _| .make _ _ _ _ _ _| .Je _ _ _ _ _ _| .EN _ _| .X8 _ _| .FH _ _ _ _ _| .FX _ _ _ _ _ _| .mem _ _ _=>true
 |_=>false
def Fc(ops:List Oper)(o:Oper):List Nat:=
 match o.guard with
 |none=>[]
 |some (j,_)=>((ops[j]?).bind (·.dst)).toList
def Vh(xs:List D0):List Nat:=xs.filterMap λ| .EU t _=>some t|_=>none
def Eg.rC:Eg->List Nat
 | .pure ws=>Vh (ws.map (·.2))
 |_=>[]
def Eg.Tf(U:BG)(r:Eg):Bool:=
 MK U r.news&&match r with
  | .load _ _ (some d)=>decide (d<U.length)
  | .load _ _ none| .LI _ _ _ _ _| .closure _ _ _ (_::_) _=>false
  |_=>true
def UK(C:Fv)(ops:List Oper)(U:BG)(o:Oper)(r:Option Eg):FP:=
 match r with
 |none=>{rs:=Fc ops o,wf:=o.dst.toList,hl:=false,Rv:=false,news:=[],lr:=Vh (o.dst.toList.map U.at),Tf:=true}
 |some r=>{rs:=Fc ops o++Jw o.op.operands.toList++HF C U o,wf:=r.wf++o.dst.toList,hl:=r.hl,Rv:=r.Rv,news:=r.news,lr:=Vh ((r.wf++o.dst.toList).map U.at)++r.rC,Tf:=r.Tf U}
def T3(a b:List Nat):Bool:=a.any λx=>b.contains x
def FP.apart(x y:FP):Bool:= !T3 x.wf (y.rs++y.wf)&& !T3 y.wf x.rs&& !T3 x.lr y.news&& !T3 y.lr x.news
def QP(x y:FP):Bool:=x.Tf&&y.Tf&&x.apart y&& !(x.Rv&&y.Rv)&& !(x.Rv&&y.hl)
def VN(n:Nat)(an:List Nat)(a:List (Nat×FP)):Bool:=
 go a&&(List.range n).all (λi=>(a.map (·.1)).contains i)
where
 go:List (Nat×FP)->Bool
  |[]=>true
  |(i,f)::rest=>rest.all (λ(j,g)=>i != j&& !D4 an j i&&(D4 an i j||QP f g))&&go rest
structure J2 where
 idx:Nat
 n:Option Nat
 p:Aa
 v:Aa
def RG(an:List Nat)(i:Nat):List J2->IT->IT
 |[],t=>t
 |f::fs,t=>if D4 an f.idx i then RG an i fs t else .load f.n f.p λv=> .same f.v v (RG an i fs t)
def Ml(i:Nat)(r:Eg)(U:BG)(fl:List J2):List J2:=
 match r with
 | .load n p (some d)=>match U.at d with
  | .val v=>{idx:=i,n,p,v}::fl
  |_=>fl
 |_=>fl
def RH(ops:List Oper)(i:Nat):Bool:=ops.any λo=>match o.guard with|some (j,_)=>j==i|none=>false
def rD(d:Option Nat)(U:BG)(K:BG->IT):IT:=
 match d with
 |none=>K U
 |some d=>match U.at d with
  | .val v=> .AD v (K (U.set d (.OD true))) (K (U.set d (.OD false)))
  |_=>K U
def QQ(C:Fv)(fid:FuncId)(ops:List Oper)(an:List Nat):List Nat->List (Nat×FP)->List J2->BG->(BG->IT)->IT
 |[],a,_,U,K=>if VN ops.length an a.reverse then K U else .fail
 |i::rest,a,fl,U,K=>
  match ops[i]? with
  |none=> .fail
  |some o=>match Iq ops U o with
   | .MZ true=>match FL C fid ops U o with
    |none=> .fail
    |some r=>r.LL C (U.drop r.news) λc=>
     let next:=rD (if RH ops i then o.dst else none) c λb=>QQ C fid ops an rest ((i,UK C ops U o (some r))::a) (Ml i r c fl) b K
     if r.Rv then RG an i fl next else next
   | .MZ false=>QQ C fid ops an rest ((i,UK C ops U o none)::a) fl (U.put o.dst .skip) K
   |_=> .fail
def D5(ops:List Oper)(o:Oper):List Nat:=
 o.dst.toList++match o.op with
  | .move (.tmp s)=>(match o.dst with|some d=>if ic ops d then[s] else[]|none=>[])
  | .assign (.tmp s)=>[s]
  | .store _ _ (.tmp s)=>[s]
  | .call c=>(match c.callee with| .builtin .append=>Jw c.args.toList| .value (.func f)=>if Te f then Jw c.args.toList else[]|_=>[])
  | .makeFunc _ _ captured=>Jw captured.toList
  |_=>[]
def CZ:Code->List Nat
 | .region _ ops _=>ops.toList.flatMap (D5 ops.toList)
 | .seq a b=>CZ a++CZ b
 | .cond _ a b=>CZ a++CZ b
 | .block _ b=>CZ b
 | .loop b=>CZ b
 | .scope b=>CZ b
 |_=>[]
def B7:Code->List Nat
 | .region _ ops _=>ops.toList.flatMap (Fc ops.toList)
 | .seq a b=>B7 a++B7 b
 | .cond (.tmp s) a b=>s::(B7 a++B7 b)
 | .cond _ a b=>B7 a++B7 b
 | .block _ b=>B7 b
 | .loop b=>B7 b
 | .scope b=>B7 b
 |_=>[]
def BG.clear(U:BG):List Nat->BG
 |[]=>U
 |s::ss=>BG.clear (U.set s .undef) ss
def Gl:Code->Option Nat
 | .region id _ _=>some id
 | .seq a b=>(Gl a).orElse λ_=>Gl b
 | .cond _ a b=>(Gl a).orElse λ_=>Gl b
 | .block _ b| .loop b| .scope b=>Gl b
 |_=>none
def VO(U:BG):List (Nat×Sh)->Option (List Aa)
 |[]=>some []
 |(s,sh)::l=>
  let v:=match sh,U.at s with
   | .val,x=>x.GZ
   | .BK,.BK v=>some v
   | .box n ow,.box _ cs Nr=>if cs.length=n/\ow.all (Nr.contains ·) then some (.agg cs) else none
   |_,_=>none
  match v,VO U l with
  |some v,some vs=>some (v::vs)
  |_,_=>none
def YP:D0->Nat
 | .box ver _ _=>ver
 |_=>0
def I4(vs:List Aa):List (Nat×Sh)->Nat->BG->(BG->IT)->IT
 |[],_,U,K=>K U
 |(s,.val)::l,i,U,K=>I4 vs l (i+1) (U.set s (.val (vs.getD i .nilIface))) K
 |(s,.BK)::l,i,U,K=>I4 vs l (i+1) (U.set s (.BK (vs.getD i .nilIface))) K
 |(s,.box n ow)::l,i,U,K=> .cells n (vs.getD i .nilIface) λcs=>I4 vs l (i+1) (U.set s (.box (YP (U.at s)+1) (VJ n cs) ow)) K
def mB(U:BG)(a:BG)(l:List (Nat×Sh)):Bool:=
 (List.range U.length).all λs=>match U.at s with
  | .box ver _ _=>(l.map (·.1)).contains s||(match a.at s with| .box FM _ _=>FM==ver|_=>false)
  | .EU _ _=>(l.map (·.1)).contains s||(match a.at s with| .EU _ _=>true|_=>false)
  |_=>true
def EE(b:BG)(l:List (Nat×Sh))(x:FG)(a:BG):IT:=
 if mB b a l then match VO a l with
  |some vs=> .ret x vs
  |none=> .fail
 else .fail
def ir(l:List (Nat×Sh))(ws:List Nat)(U:BG):Bool:=l.all λ(s,_)=>ws.contains s||(match U.at s with| .box _ _ _=>true|_=>false)
def Z9(ops:List Oper):Bool:=ops.zipIdx.all λ(o,i)=>(Oper.UJ o).all λe=>decide (e<i)
def RI(C:Fv)(fid:FuncId)(ops:List Oper)(draw:Bool)(U:BG)(K:BG->IT):IT:=
 if draw then(if Z9 ops then QQ C fid ops (VL ops) (xw ops) [] [] U K else .fail) else rB C fid ops ops U K
def aA(key:Nat)(U:BG)(ws:List Nat)(l:List (Nat×Sh))(t:(FG->BG->IT)->IT)(K:FG->BG->IT):IT:=
 let b:=U.clear ws
 if ir l ws U then .FZ key (t λx a=>EE b l x a) λx vs=>I4 vs l 0 b λa=>K x a else .fail
def Ĉ(K:FG->BG->IT):FG->BG->IT
 | .normal,_=> .fail
 | .exit i,U=>K (.exit i) U
 | .ret,U=>K .ret U
def FN(C:Fv)(fid:FuncId):Code->BG->(FG->BG->IT)->IT
 | .skip,U,K=>K .normal U
 | .region id ops draw,U,K=>match C.ą fid id with
  |none=>RI C fid ops.toList draw U (K .normal)
  |some l=>aA (200000+id) U (ops.toList.flatMap (D5 ops.toList)++ops.toList.flatMap (Fc ops.toList)) l (λK=>RI C fid ops.toList draw U (K .normal)) K
 | .seq a b,U,K=>FN C fid a U λx d=>match x with
  | .normal=>FN C fid b d K
  | .exit i=>K (.exit i) d
  | .ret=>K .ret d
 | .cond c a b,U,K=>match c,DL C U c with
  |_,some (.OD true)=>FN C fid a U K
  |_,some (.OD false)=>FN C fid b U K
  | .tmp s,some (.val v)=>match C.Ą fid s with
   |none=> .AD v (FN C fid a (U.set s (.OD true)) K) (FN C fid b (U.set s (.OD false)) K)
   |some l=>aA (100000+s) U (s::(CZ a++CZ b++B7 a++B7 b)) l (λK=> .AD v (FN C fid a (U.set s (.OD true)) K) (FN C fid b (U.set s (.OD false)) K)) K
  |_,_=> .fail
 | .block id b,U,K=>FN C fid b U λx d=>match x with
  | .normal=>K .normal d
  | .exit i=>if i=id then K .normal d else K (.exit i) d
  | .ret=>K .ret d
 | .loop b,U,K=>
  let l:=C.ō fid ((Gl b).getD 0)
  let ws:=CZ b++B7 b
  let f:=U.clear ws
  if ir l ws U then match VO U l with
   |none=> .fail
   |some init=> .loop ((Gl b).getD 0) init (λvs=>I4 vs l 0 f λe=>FN C fid b e λx d=>EE f l x d) λx vs=>I4 vs l 0 f λd=>Ĉ K x d
  else .fail
 | .exit id,U,K=>K (.exit id) U
 | .ret,U,K=>K .ret U
 | .scope b,U,K=>FN C fid b U K
 | .label _,U,K=>K .normal U
 |_,_,_=> .fail
def Gf(C:Fv)(U:BG):List ResultVar->List Aa->(List Aa->IT)->IT
 |[],DA,K=>K DA.reverse
 | .tmp t::rs,DA,K=>match(U.at t).GZ with
  |some v=>Gf C U rs (v::DA) K
  |none=> .fail
 | .cell a t::rs,DA,K=>match EW C.P t,FI C U (.tmp a) with
  |some none,some (.OP _ o _ cs _)=>if o<cs.length then Gf C U rs (cs.getD o .nilIface::DA) K else .fail
  |some (some n),some (.OP _ o _ cs _)=>if o+n<=cs.length then Gf C U rs (.agg ((cs.drop o).take n)::DA) K else .fail
  |some n,some (.ptr p)=> .load n p λv=>Gf C U rs (v::DA) K
  |_,_=> .fail
def PS(U:BG):List ResultVar->Bool
 |[.tmp t]=>match U.at t with| .BK _=>true|_=>false
 |_=>false
def rE(C:Fv)(U:BG):List (Nat×Nat)->IT->IT
 |[],t=>t
 |(s,off)::l,t=>match(U.at s).GZ with
  |some p=> .H7 off p (rE C U l t)
  |none=> .fail
def OR:List Aa->List Aa->(List Aa->IT)->IT
 |[],DA,K=>K DA.reverse
 |v::vs,DA,K=> .UI v λv=>OR vs (v::DA) K
def T4:List Aa->IT
 |[v]=> .ret .ret [v]
 |vs=> .ret .ret [.tuple vs]
def fI(C:Fv)(fid:FuncId)(fn:Func)(U:BG):IT:=
 if C.I3 fid&& !PS U fn.results.toList then .fail
 else rE C U (C.h_ fid) (Gf C U fn.results.toList [] λvs=>if C.g_ fid then OR vs [] T4 else T4 vs)
def iu(C:Fv)(fid:FuncId)(fn:Func)(args:List Aa):IT:=
 match fn.body with
 |none=> .fail
 |some c=>FN C fid c (args.map .val++List.replicate (fn.ntmps-args.length) .undef) λx U=>match x with
  | .normal=>fI C fid fn U
  | .exit _=> .fail
  | .ret=>fI C fid fn U
def aEl(C:Fv)(fid:FuncId)(args:List Aa):IT:=
 match C.P.funcs[Ea fid]? with
 |some fn=>if fn.name== "runtime.NumGoroutine" then .fail else iu C fid fn args
 |none=> .fail
def B4(C:Fv)(fid:FuncId)(args:List Aa):IT:=
 match C.Ŏ fid with
 |some p=>p args
 |none=>aEl C fid args
abbrev g(l:List Aa)(i:Nat):Aa:=l.getD i .nilIface
abbrev I(n:Int):Aa:= .int .i64 n
abbrev S(s:Ah):Aa:= .str s
abbrev tt:Aa:= .bool true
abbrev ff:Aa:= .bool false
abbrev Fv.run(C:Fv):Nat->IT->Ai->Option Jp:=IT.run (B4 C)
end Go.Am
end
end
section
namespace Go.Am
def IT.Jf{fn:FuncId->List Aa->IT}{rec aEm:IT->Ai->Option Jp}(hr:∀t h r,rec t h=some r->aEm t h=some r):
  ∀(t:IT) (h:Ai) (r:Jp),IT.step fn rec t h=some r->IT.step fn aEm t h=some r:=by
 intro t;induction t with
 |ret x vs=>intro h r d;simpa[IT.step] using d
 |fail=>intro h r d;simp[IT.step] at d
 |op o args k ih=>
  intro h r d;simp only[IT.step] at d⊢;split at d;.exact ih _ _ _ d
  .cases d
 |cells n v k ih=>
  intro h r d;simp only[IT.step] at d⊢;split at d;.rename_i hc;rw[Af hc];exact ih _ _ _ d
  .cases d
 |AD c t e i q=>
  intro h r d;simp only[IT.step] at d⊢;split at d;.exact i _ _ d
  .exact q _ _ d
  .cases d
 |load n p k ih=>
  intro h r d;simp only[IT.step] at d⊢;split at d;.exact ih _ _ _ d
  .cases d
 |store n p v k ih=>
  intro h r d;simp only[IT.step] at d⊢;split at d;.exact ih _ _ d
  .cases d
 |alloc n v k ih=>
  intro h r d;simp only[IT.step] at d⊢;split at d;.exact ih _ _ _ d
  .cases d
 |call f args k ih=>
  intro h r d;simp only[IT.step] at d⊢;split at d;.rename_i h1;rw[hr _ _ _ h1];exact ih _ _ _ d
  .cases d
 |D3 g args k ih=>
  intro h r d;simp only[IT.step] at d⊢;split at d
  .rename_i f a ht;split at d;.rename_i h1;simp only[hr _ _ _ h1];exact ih _ _ _ d
   .cases d
  .cases d
 |Bn f args k ih=>
  intro h r d;simp only[IT.step] at d⊢;split at d
  .rename_i Io;rw[Af Io];split at d
   .rename_i h1;rw[hr _ _ _ h1];split at d;.rename_i fm;simp only[fm,BE];exact ih _ _ _ d
    .cases d
   .cases d
  .cases d
 |loop key init body k l j=>
  intro h r d;simp only[IT.step] at d⊢;split at d;.rename_i h1;rw[l _ _ _ h1];exact hr _ _ _ d
  .rename_i x vs h1 hne hx;rw[l _ _ _ hx];cases x<;>first|exact j _ _ _ _ d|exact absurd rfl hne
  .cases d
 |FZ key t k i j=>
  intro h r d;simp only[IT.step] at d⊢;split at d;.rename_i h1;rw[i _ _ h1];exact j _ _ _ _ d
  .cases d
 |same a b k ih=>
  intro h r d;simp only[IT.step] at d⊢;split at d;.rename_i hc;rw[Af hc];exact ih _ _ d
  .cases d
 |MX k ih=>intro h r d;simp only[IT.step] at d⊢;exact ih _ _ _ d
 |Hw m key v k ih=>
  intro h r d;simp only[IT.step] at d⊢;split at d;.exact ih _ _ d
  .cases d
 |LI z ok m key k ih=>
  intro h r d;simp only[IT.step] at d⊢;split at d;.exact ih _ _ _ d
  .cases d
 |make size bytes zero len cap k ih=>
  intro h r d;simp only[IT.step] at d⊢;split at d;.exact ih _ _ _ d
  .cases d
 |Je size bytes s x k ih=>
  intro h r d;simp only[IT.step] at d⊢;split at d;.exact ih _ _ _ d
  .cases d
 |EN s k ih=>
  intro h r d;simp only[IT.step] at d⊢;split at d;.exact ih _ _ _ d
  .cases d
 |UI v k ih=>
  intro h r d;simp only[IT.step] at d⊢;split at d;.exact ih _ _ _ d
  .cases d
 |H7 off p k ih=>
  intro h r d;simp only[IT.step] at d⊢;split at d;.exact ih _ _ d
  .cases d
 |FH size bytes s x k ih=>
  intro h r d;simp only[IT.step] at d⊢;split at d;.exact ih _ _ _ d
  .cases d
 |FX size bytes s x k ih=>
  intro h r d;simp only[IT.step] at d⊢;split at d;.exact ih _ _ _ d
  .cases d
 |mem o args k ih=>
  intro h r d;simp only[IT.step] at d⊢;split at d;.exact ih _ _ _ d
  .cases d
 |qX f args k ih=>
  intro h r d;simp only[IT.step] at d⊢;split at d
  .rename_i h1;rw[hr _ _ _ h1];split at d;.rename_i fm;simp only[fm,BE];exact ih _ _ _ d
   .cases d
  .cases d
def IT.iv{fn:FuncId->List Aa->IT}:∀(n:Nat) (t:IT) (h:Ai) (r:Jp),IT.run fn n t h=some r->IT.run fn (n+1) t h=some r:=by
 intro n;induction n with
 |zero=>intro t h r a;simp[IT.run] at a
 |succ n ih=>intro t h r a;exact IT.Jf (λt h r=>ih t h r) t h r a
def IT.HJ{fn:FuncId->List Aa->IT}{n m:Nat}(hnm:n<=m){t:IT}{h:Ai}{r:Jp}(a:IT.run fn n t h=some r):IT.run fn m t h=some r:=by
 induction hnm with
 |refl=>exact a
 |step _ ih=>exact IT.iv _ _ _ _ ih
abbrev J7:=FG->List Aa->Ai->Prop
def W(C:Fv)(t:IT)(Q:J7)(h:Ai):Prop:=∃n x vs h',C.run n t h=some (x,vs,h')/\Q x vs h'
section
variable{C:Fv}{Q:J7}{h:Ai}
def W.mono{t:IT}{Q':J7}(hw:W C t Q h)(hq:∀x vs h',Q x vs h'->Q' x vs h'):W C t Q' h:=
 let⟨n,x,vs,h',hr,q⟩:=hw;⟨n,x,vs,h',hr,hq _ _ _ q⟩
def ĉ{x:FG}{vs:List Aa}(hq:Q x vs h):W C (.ret x vs) Q h:=⟨1,x,vs,h,rfl,hq⟩
def CR{t:IT}(a:∃n x vs h',IT.step (B4 C) (C.run n) t h=some (x,vs,h')/\Q x vs h'):W C t Q h:=
 let⟨n,x,vs,h',hr,q⟩:=a;⟨n+1,x,vs,h',hr,q⟩
def W.succ{t:IT}(a:W C t Q h):∃n x vs h',IT.step (B4 C) (C.run n) t h=some (x,vs,h')/\Q x vs h':=by
 obtain⟨n,x,vs,h',hr,q⟩:=a;cases n with
 |zero=>simp[Fv.run,IT.run] at hr
 |succ n=>exact⟨n,x,vs,h',hr,q⟩
def aEn{o:X3}{args:List Aa}{k:Aa->IT}{v:Aa}(hv:Az o args=some v)(hw:W C (k v) Q h):W C (.op o args k) Q h:=by obtain⟨n,x,vs,h',hr,q⟩:=hw.succ;exact CR ⟨n,x,vs,h',by simp only[IT.step,hv];exact hr,q⟩
def rF{n:Nat}{v:Aa}{k:List Aa->IT}(hv:v.cells.length=n)(hw:W C (k v.cells) Q h):W C (.cells n v k) Q h:=by obtain⟨m,x,vs,h',hr,q⟩:=hw.succ;exact CR ⟨m,x,vs,h',by simp only[IT.step,hv,BE];exact hr,q⟩
def rG{b:Bool}{t e:IT}(ht:b=true->W C t Q h)(he:b=false->W C e Q h):W C (.AD (.bool b) t e) Q h:=by
 cases b with
 |true=>obtain⟨m,x,vs,h',hr,q⟩:=(ht rfl).succ;exact CR ⟨m,x,vs,h',by simp only[IT.step];exact hr,q⟩
 |false=>obtain⟨m,x,vs,h',hr,q⟩:=(he rfl).succ;exact CR ⟨m,x,vs,h',by simp only[IT.step];exact hr,q⟩
def iw{n:Option Nat}{p v:Aa}{k:Aa->IT}(hv:Bj h n p=some v)(hw:W C (k v) Q h):W C (.load n p k) Q h:=by obtain⟨m,x,vs,h',hr,q⟩:=hw.succ;exact CR ⟨m,x,vs,h',by simp only[IT.step,hv];exact hr,q⟩
def rH{n:Nat}{p v:Aa}{k:IT}{h1:Ai}(hv:CL h n p v=some h1)(hw:W C k Q h1):W C (.store n p v k) Q h:=by obtain⟨m,x,vs,h',hr,q⟩:=hw.succ;exact CR ⟨m,x,vs,h',by simp only[IT.step,hv];exact hr,q⟩
def rI{n:Nat}{v:Aa}{k:Aa->IT}(hv:v.cells.length=n)(hw:W C (k (.ptr (some (h.length,0)))) Q (h++[.cells v.cells])):W C (.alloc n v k) Q h:=by obtain⟨m,x,vs,h',hr,q⟩:=hw.succ;exact CR ⟨m,x,vs,h',by simp only[IT.step,VD,hv,BE];exact hr,q⟩
def ix{a b:Aa}{k:IT}(hv:Aa.beq a b=true)(hw:W C k Q h):W C (.same a b k) Q h:=by obtain⟨m,x,vs,h',hr,q⟩:=hw.succ;exact CR ⟨m,x,vs,h',by simp only[IT.step,hv,BE];exact hr,q⟩
def iy{k:Aa->IT}(hw:W C (k (.map (some h.length))) Q (h++[.map []])):W C (.MX k) Q h:=by obtain⟨m,x,vs,h',hr,q⟩:=hw.succ;exact CR ⟨m,x,vs,h',by simp only[IT.step];exact hr,q⟩
def iz{m key v:Aa}{k:IT}{h1:Ai}(hv:Qq h m key v=some h1)(hw:W C k Q h1):W C (.Hw m key v k) Q h:=by obtain⟨n,x,vs,h',hr,q⟩:=hw.succ;exact CR ⟨n,x,vs,h',by simp only[IT.step,hv];exact hr,q⟩
def i_{z:Aa}{ok:Bool}{m key v:Aa}{k:Aa->IT}(hv:Oj h z ok m key=some v)(hw:W C (k v) Q h):W C (.LI z ok m key k) Q h:=by obtain⟨n,x,vs,h',hr,q⟩:=hw.succ;exact CR ⟨n,x,vs,h',by simp only[IT.step,hv];exact hr,q⟩
def mC{size bytes:Nat}{zero:List Aa}{len cap v:Aa}{k:Aa->IT}{h1:Ai}(hv:RB h size bytes zero len cap=some (h1,v))(hw:W C (k v) Q h1):W C (.make size bytes zero len cap k) Q h:=by obtain⟨n,x,vs,h',hr,q⟩:=hw.succ;exact CR ⟨n,x,vs,h',by simp only[IT.step,hv];exact hr,q⟩
def rJ{size bytes:Nat}{s x v:Aa}{k:Aa->IT}{h1:Ai}(hv:MH h size bytes s x=some (h1,v))(hw:W C (k v) Q h1):W C (.Je size bytes s x k) Q h:=by obtain⟨n,x,vs,h',hr,q⟩:=hw.succ;exact CR ⟨n,x,vs,h',by simp only[IT.step,hv];exact hr,q⟩
def VP{s v:Aa}{k:Aa->IT}{h1:Ai}(hv:Ip h s=some (h1,v))(hw:W C (k v) Q h1):W C (.EN s k) Q h:=by obtain⟨n,x,vs,h',hr,q⟩:=hw.succ;exact CR ⟨n,x,vs,h',by simp only[IT.step,hv];exact hr,q⟩
def Ċ{u v:Aa}{k:Aa->IT}{h1:Ai}(hv:Li h u=some (h1,v))(hw:W C (k v) Q h1):W C (.UI u k) Q h:=by obtain⟨n,x,vs,h',hr,q⟩:=hw.succ;exact CR ⟨n,x,vs,h',by simp only[IT.step,hv];exact hr,q⟩
def rK{off:Nat}{p:Aa}{k:IT}{h1:Ai}(hv:LJ h off p=some h1)(hw:W C k Q h1):W C (.H7 off p k) Q h:=by obtain⟨n,x,vs,h',hr,q⟩:=hw.succ;exact CR ⟨n,x,vs,h',by simp only[IT.step,hv];exact hr,q⟩
def ja{size bytes:Nat}{s x v:Aa}{k:Aa->IT}{h1:Ai}(hv:GP h size bytes s x=some (h1,v))(hw:W C (k v) Q h1):W C (.FH size bytes s x k) Q h:=by obtain⟨n,x,vs,h',hr,q⟩:=hw.succ;exact CR ⟨n,x,vs,h',by simp only[IT.step,hv];exact hr,q⟩
def YQ{size bytes:Nat}{s x v:Aa}{k:Aa->IT}(hv:Qr h size bytes s x=some v)(hw:W C (k v) Q h):W C (.FX size bytes s x k) Q h:=by obtain⟨n,x,vs,h',hr,q⟩:=hw.succ;exact CR ⟨n,x,vs,h',by simp only[IT.step,hv];exact hr,q⟩
def ċ{o:gw}{args:List Aa}{v:Aa}{k:Aa->IT}{h1:Ai}(hv:DS o h args=some (h1,v))(hw:W C (k v) Q h1):W C (.mem o args k) Q h:=by obtain⟨n,x,vs,h',hr,q⟩:=hw.succ;exact CR ⟨n,x,vs,h',by simp only[IT.step,hv];exact hr,q⟩
def Ev(C:Fv)(f:FuncId)(args:List Aa)(h:Ai)(R:Aa->Ai->Prop):Prop:=
 W C (B4 C f args) (λx vs h'=>x= .ret/\∃r,vs=[r]/\R r h') h
def Ev.mono{f:FuncId}{args:List Aa}{R R':Aa->Ai->Prop}(hw:Ev C f args h R)(hr:∀r h',R r h'->R' r h'):Ev C f args h R':=
 W.mono hw λ_ _ _ ⟨hx,r,hv,hR⟩=>⟨hx,r,hv,hr _ _ hR⟩
def jb{f:FuncId}{args:List Aa}{k:Aa->IT}(hc:Ev C f args h λr h1=>W C (k r) Q h1):W C (.call f args k) Q h:=by obtain⟨n,x,vs,h1,hr,hx,r,hv,m,x',Hy,h',Hh,q⟩:=hc;subst hx;subst hv;refine CR ⟨max n m,x',Hy,h',?_,q⟩;have Č:=IT.HJ (Hu n m) hr;have h2:=IT.HJ (Bp (GU n m) (Fh _)) Hh;simp only[IT.step];simp only[Fv.run] at*;rw[Č];exact h2
def xy{f:FuncId}{args:List Aa}{k:Aa->IT}(ha:args.all Aa.Me=true)(hc:Ev C f args [] λr _=>r.Me=true/\W C (k r) Q h):W C (.Bn f args k) Q h:=by obtain⟨n,x,vs,h1,hr,hx,r,hv,Io,m,x',Hy,h',Hh,q⟩:=hc;subst hx;subst hv;refine CR ⟨max n m,x',Hy,h',?_,q⟩;have Č:=IT.HJ (Hu n m) hr;have h2:=IT.HJ (Bp (GU n m) (Fh _)) Hh;simp only[IT.step,ha,BE];simp only[Fv.run] at*;rw[Č];simp only[Io,BE];exact h2
def jc{key:Nat}{t:IT}{k:FG->List Aa->IT}(hw:W C t (λx vs h1=>W C (k x vs) Q h1) h):W C (.FZ key t k) Q h:=by obtain⟨n,x,vs,h1,hr,a⟩:=hw.succ;obtain⟨m,x',Hy,h',Hh,q⟩:=a.succ;refine CR ⟨max n m,x',Hy,h',?_,q⟩;have c:=IT.Jf (λt h r=>IT.HJ (fn:=B4 C) (Hu n m)) _ _ _ hr;have b:=IT.Jf (λt h r=>IT.HJ (fn:=B4 C) (GU n m)) _ _ _ Hh;simp only[IT.step];simp only[Fv.run] at*;rw[c];exact b
end
end Go.Am
end
