/- Lemmas -/
import GoSem.Step
set_option linter.all false
def Ab:=@Nat.le_refl
def Af:=@if_pos
def Ag:=@if_neg
def Ai:=@decide_eq_false
def Aj:=@List.getElem?_eq_some_iff
def Al:=@decide_eq_true
def An:=@List.getElem?_append_left
def Ao:=@List.getElem?_set_ne
def Ap:=@List.length_append
def Aq:=@List.mem_append
def As:=@List.length_map
def Au:=@List.getElem?_eq_getElem
def Az:=@List.drop_eq_getElem_cons
def AA:=@List.getElem?_set_self
def AB:=@List.length_take
def AD:=@List.Sublist.refl
def AE:=@List.mem_cons
def AJ:=@List.length_cons
def AM:=@false_implies
def AN:=@Array.getElem?_eq_some_iff
def AO:=@Bool.and_eq_true
def AP:=@List.getD_eq_getElem?_getD
def AQ:=@List.append_assoc
def AR:=@true_implies
def AS:=@List.take_succ_eq_append_getElem
def AT:=@List.drop_of_length_le
def AU:=@List.mem_singleton
def AW:=@not_true_eq_false
def AZ:=@List.mem_map
def A0:=@List.map_cons
def A3:=@not_false_eq_true
def A4:=@List.mem_of_mem_take
def A5:=@List.getElem_mem
def A6:=@eq_true
def Bc:=@List.length_singleton
def Bd:=@Nat.zero_le
def Be:=@List.take_of_length_le
def Bj:=@List.length_drop
def Bk:=@Nat.lt_or_ge
def Bl:=@Nat.add_zero
def Bn:=@List.getElem?_append_right
def Bp:=@Nat.le_trans
def Bq:=@List.append_nil
def Br:=@List.length_nil
def Bt:=@Option.map_some
def Bu:=@List.mem_of_mem_drop
def Bx:=@Option.some.injEq
def BC:=@Nat.zero_add
def BD:=@if_true
def BE:=@Nat.add_mul
def BH:=@Int.toNat_natCast
def BK:=@List.mem_append_right
def BL:=@List.set_append_right
def BO:=@List.nil_append
def BP:=@List.map_append
def BQ:=@List.nodup_append
def BY:=@List.length_set
def BZ:=@List.take_length
def B3:=@List.size_toArray
def B4:=@decide_eq_true_eq
def B5:=@congrArg
def B6:=@List.nodup_cons
def Cb:=@Array.length_toList
def Ce:=@List.mem_filterMap
def Cg:=@List.getElem?_map
def Ch:=@List.take_sublist
def Cj:=@Option.bind_some
def Ck:=@List.set_eq_take_append_cons_drop
def Cm:=@Array.getElem?_eq_getElem
def Cn:=@List.getElem?_take
def Co:=@Bool.false_eq_true
def Cq:=@eq_self
def Cr:=@List.getElem?_drop
def Cv:=@List.mem_of_getElem?
def Cw:=@List.mem_append_left
def Cx:=@List.take_append_drop
def CA:=@ne_eq
def CB:=@List.flatten_cons
def CC:=@List.cons_append
def CF:=@List.getElem?_of_mem
def CG:=@Nat.min_eq_left
def CK:=@List.all_eq_true
def CL:=@List.getElem?_take_of_lt
def CN:=@List.eq_nil_of_length_eq_zero
def CT:=@Nat.succ_pos
def C4:=@List.getElem?_eq_none
def Dc:=@List.map_nil
def Dd:=@Nat.lt_irrefl
def Dk:=@List.mem_filter
def Dn:=@decide_eq_decide
def Dr:=@Ne.symm
def Dz:=@List.take_append_of_le_length
def DA:=@List.mem_or_eq_of_mem_set
def DB:=@Nat.sub_self
def DO:=@if_false
def DW:=@Nat.mul_le_mul_right
def Ef:=@List.length_pos_iff
def Eh:=@Nat.one_mul
def Ei:=@Decidable.not_not
def El:=@List.filterMap_append
def Ez:=@List.drop_drop
def ED:=@Option.some.inj
def EE:=@List.cons.injEq
def EN:=@List.filter_append
def EV:=@List.getElem_map
def Fa:=@List.take_left
def Fb:=@List.nodup_iff_pairwise_ne
def Fc:=@decide_false
def Fm:=@Nat.le_succ
def Fo:=@Nat.zero_lt_one
def Fx:=@List.length_replicate
def FF:=@Option.getD_some
def FG:=@Nat.le_add_right
def F6:=@List.take_take
def F7:=@Nat.mul_one
def Gf:=@Array.ext'
def Gw:=@Array.toList_append
def GJ:=@Array.getD_eq_getD_getElem?
def GK:=@List.map_set
def GN:=@decide_true
def GO:=@List.map_take
def GP:=@Nat.le_max_right
def GQ:=@List.drop_length
def GR:=@List.filter_cons
def Hg:=@List.set_getElem_self
def Hp:=@List.extract_eq_take_drop
def Hq:=@List.mem_of_find?_eq_some
def Hr:=@Nat.le_max_left
def Hs:=@List.find?_cons
def HC:=@List.pairwise_map
def HD:=@List.reverse_cons
def HE:=@of_decide_eq_true
def HF:=@bne_self_eq_false
def HY:=@Int.toNat_of_nonneg
def HZ:=@List.reverse_append
def H5:=@List.filterMap_cons
def Ij:=@Array.eq_empty_of_size_eq_zero
def Ik:=@Nat.le_mul_of_pos_right
def Il:=@List.getElem?_cons_zero
def IK:=@Nat.lt_of_lt_of_le
def IL:=@Option.map_eq_some_iff
def IM:=@List.reverse_singleton
def IN:=@List.find?_eq_none
def I3:=@List.take_left'
def I8:=@Bool.false_or
def Jj:=@List.singleton_append
def Jw:=@Array.size_append
def J2:=@List.drop_zero
def J3:=@List.nodup_nil
def J4:=@Array.replicate_succ
def J5:=@Array.replicate_zero
def J6:=@List.reverse_reverse
def Ka:=@List.any_eq_true
def Ky:=@List.toList_toArray
def Kz:=@List.flatten_append
def KA:=@List.replicate_succ
def KB:=@List.append_toArray
def KC:=@List.findIdx?_eq_some_iff_findIdx_eq
def K6:=@List.map_drop
def La:=@List.drop_left'
def Lb:=@List.find?_some
def Lc:=@Bool.eq_iff_iff
def Lm:=@Nat.eq_zero_or_pos
def L7:=@List.ext_getElem?
def L8:=@Nat.le_of_eq
def L9:=@Nat.zero_mul
def Ma:=@List.take_zero
def Mb:=@and_true
def Mc:=@List.push_toArray
def Md:=@List.set_set
def ME:=@Array.getElem?_modify
def MF:=@Nat.eq_of_beq_eq_true
def MV:=@Array.toList_map
def MW:=@List.not_mem_nil
def MX:=@Prod.mk.injEq
def Nw:=@Array.toList_extract
def Nx:=@true_and
def Ny:=@Int.le_refl
def On:=@Bool.or_eq_true
def OI:=@List.take_succ_cons
def OJ:=@List.getElem_of_mem
def OK:=@List.mem_map_of_mem
def OQ:=@Nat.add_comm
def OR:=@Nat.ne_of_lt
def OS:=@Bool.true_or
def PK:=@Array.ext_getElem?
def PL:=@not_or
def PM:=@Bool.not_false
def PO:=@Int.fdiv_eq_ediv_of_nonneg
def Qq:=@Option.filter_eq_some_iff
def Qr:=@List.getLast?_eq_getElem?
def QL:=@List.find?_append
def Rp:=@Nat.add_assoc
def Rq:=@Bool.or_false
def Rr:=@Bool.bne_true
def Rs:=@List.getElem_append_left
def Rt:=@List.any_cons
def SN:=@List.drop_append
def SO:=@List.getElem?_cons_succ
def SP:=@List.reverse_nil
def SQ:=@Nat.lt_succ_self
def SR:=@Option.bind_eq_some_iff
def SU:=@Nat.add_sub_cancel_left
def SV:=@Int.eq_ofNat_of_zero_le
def SX:=@List.map_reverse
def TV:=@List.sublist_cons_self
def TW:=@Nat.le_of_lt
def TX:=@Int.not_lt
def Vc:=@List.dropLast_eq_take
def X6:=@List.mem_cons_of_mem
def X7:=@and_self
def YM:=@List.take_set_of_le
def YN:=@Array.getElem?_push
def YO:=@List.map_congr_left
def YP:=@List.getD_cons_zero
def YQ:=@List.length_reverse
def YR:=@List.filter_eq_self
def Z0:=@Bool.true_and
def Z3:=@List.all_cons
def eU:=@List.set_cons_zero
def eV:=@Nat.add_sub_cancel
def lD:=@dif_pos
def lE:=@List.any_nil
def lP:=@Array.getElem?_setIfInBounds_ne
def lQ:=@List.takeWhile_append_dropWhile
def qK:=@List.zipIdx_cons
def qL:=@List.take_append
def qM:=@List.mem_flatMap
def qN:=@Option.getD_none
def yY:=@List.drop_append_of_le_length
def fj:=@List.foldl_cons
def gw:=@eq_comm
def wv:=@beq_iff_eq
def wz:=@or_false
def xo:=@List.pairwise_iff_getElem
def ă:=@List.take_add
def Ą:=@List.eq_of_mem_replicate
def ą:=@Int.lt_irrefl
def ŉ:=@and_false
def Ŋ:=@false_and
def ŋ:=@List.filter_cons_of_pos
def Ō:=@List.length_eq_zero_iff
def aDH:=@List.length_eq_one_iff
def aDI:=@List.map_map
def aEi:=@List.contains_iff_mem
def aEj:=@Array.getElem?_toList
def aHS:=@List.getElem?_append
def aHT:=@List.range_eq_range'
def aHU:=@List.pairwise_append
def aHV:=@Array.getElem_toList
def aHW:=@List.set_append_left
def aHX:=@List.mem_of_getLast?
def aIV:=@Nat.add_sub_cancel'
def aIW:=@List.drop_set_of_lt
def aIX:=@Array.toList_zipIdx
def aIY:=@List.getD_cons_succ
def aIZ:=@List.drop_take_self
def aMZ:=@List.zip_cons_cons
def aM0:=@Array.foldl_toList
def aM1:=@List.pairwise_cons
def aM2:=@Option.isSome_some
def aM3:=@List.findIdx?_cons
def aM4:=@Option.toList_some
def aM5:=@List.map_singleton
def aOL:=@Bool.not_eq_true'
def aOM:=@List.getElem?_set
def aOO:=@List.any_eq_false
def aOQ:=@List.drop_sublist
def aOR:=@List.find?_isSome
def aOS:=@List.getLast?_nil
def aOT:=@Nat.lt_trichotomy
abbrev aTp:List UInt8:=[97,116,116,114,105,98,117,116,101,78,97,109,101,32,97,116,116,114,105,98,117,116,101,84,121,112,101,32,98,97,115,101,70,114,101,113,117,101,110,99,121,32,98,97,115,101,80,114,111,102,105,108,101,32,99,97,108,99,77,111,100,101,32,99,108,105,112,80,97,116,104,85,110,105,116,115,32,100,105,102,102,117,115,101,67,111,110,115,116,97,110,116,32,101,100,103,101,77,111,100,101,32,102,105,108,116,101,114,85,110,105,116,115,32,103,108,121,112,104,82,101,102,32,103,114,97,100,105,101,110,116,84,114,97,110,115,102,111,114,109,32,103,114,97,100,105,101,110,116,85,110,105,116,115,32,107,101,114,110,101,108,77,97,116,114,105,120,32,107,101,114,110,101,108,85,110,105,116,76,101,110,103,116,104,32,107,101,121,80,111,105,110,116,115,32,107,101,121,83,112,108,105,110,101,115,32,107,101,121,84,105,109,101,115,32,108,101,110,103,116,104,65,100,106,117,115,116,32,108,105,109,105,116,105,110,103,67,111,110,101,65,110,103,108,101,32,109,97,114,107,101,114,72,101,105,103,104,116,32,109,97,114,107,101,114,85,110,105,116,115,32,109,97,114,107,101,114,87,105,100,116,104,32,109,97,115,107,67,111,110,116,101,110,116,85,110,105,116,115,32,109,97,115,107,85,110,105,116,115,32,110,117,109,79,99,116,97,118,101,115,32,112,97,116,104,76,101,110,103,116,104,32,112,97,116,116,101,114,110,67,111,110,116,101,110,116,85,110,105,116,115,32,112,97,116,116,101,114,110,84,114,97,110,115,102,111,114,109,32,112,97,116,116,101,114,110,85,110,105,116,115,32,112,111,105,110,116,115,65,116,88,32,112,111,105,110,116,115,65,116,89,32,112,111,105,110,116,115,65,116,90,32,112,114,101,115,101,114,118,101,65,108,112,104,97,32,112,114,101,115,101,114,118,101,65,115,112,101,99,116,82,97,116,105,111,32,112,114,105,109,105,116,105,118,101,85,110,105,116,115,32,114,101,102,88,32,114,101,102,89,32,114,101,112,101,97,116,67,111,117,110,116,32,114,101,112,101,97,116,68,117,114,32,114,101,113,117,105,114,101,100,69,120,116,101,110,115,105,111,110,115,32,114,101,113,117,105,114,101,100,70,101,97,116,117,114,101,115,32,115,112,101,99,117,108,97,114,67,111,110,115,116,97,110,116,32,115,112,101,99,117,108,97,114,69,120,112,111,110,101,110,116,32,115,112,114,101,97,100,77,101,116,104,111,100,32,115,116,97,114,116,79,102,102,115,101,116,32,115,116,100,68,101,118,105,97,116,105,111,110,32,115,116,105,116,99,104,84,105,108,101,115,32,115,117,114,102,97,99,101,83,99,97,108,101,32,115,121,115,116,101,109,76,97,110,103,117,97,103,101,32,116,97,98,108,101,86,97,108,117,101,115,32,116,97,114,103,101,116,88,32,116,97,114,103,101,116,89,32,116,101,120,116,76,101,110,103,116,104,32,118,105,101,119,66,111,120,32,118,105,101,119,84,97,114,103,101,116,32,120,67,104,97,110,110,101,108,83,101,108,101,99,116,111,114,32,121,67,104,97,110,110,101,108,83,101,108,101,99,116,111,114,32,122,111,111,109,65,110,100,80,97,110]
abbrev aTq:List UInt8:=[97,108,116,71,108,121,112,104,32,97,108,116,71,108,121,112,104,68,101,102,32,97,108,116,71,108,121,112,104,73,116,101,109,32,97,110,105,109,97,116,101,67,111,108,111,114,32,97,110,105,109,97,116,101,77,111,116,105,111,110,32,97,110,105,109,97,116,101,84,114,97,110,115,102,111,114,109,32,99,108,105,112,80,97,116,104,32,102,101,66,108,101,110,100,32,102,101,67,111,108,111,114,77,97,116,114,105,120,32,102,101,67,111,109,112,111,110,101,110,116,84,114,97,110,115,102,101,114,32,102,101,67,111,109,112,111,115,105,116,101,32,102,101,67,111,110,118,111,108,118,101,77,97,116,114,105,120,32,102,101,68,105,102,102,117,115,101,76,105,103,104,116,105,110,103,32,102,101,68,105,115,112,108,97,99,101,109,101,110,116,77,97,112,32,102,101,68,105,115,116,97,110,116,76,105,103,104,116,32,102,101,68,114,111,112,83,104,97,100,111,119,32,102,101,70,108,111,111,100,32,102,101,70,117,110,99,65,32,102,101,70,117,110,99,66,32,102,101,70,117,110,99,71,32,102,101,70,117,110,99,82,32,102,101,71,97,117,115,115,105,97,110,66,108,117,114,32,102,101,73,109,97,103,101,32,102,101,77,101,114,103,101,32,102,101,77,101,114,103,101,78,111,100,101,32,102,101,77,111,114,112,104,111,108,111,103,121,32,102,101,79,102,102,115,101,116,32,102,101,80,111,105,110,116,76,105,103,104,116,32,102,101,83,112,101,99,117,108,97,114,76,105,103,104,116,105,110,103,32,102,101,83,112,111,116,76,105,103,104,116,32,102,101,84,105,108,101,32,102,101,84,117,114,98,117,108,101,110,99,101,32,102,111,114,101,105,103,110,79,98,106,101,99,116,32,103,108,121,112,104,82,101,102,32,108,105,110,101,97,114,71,114,97,100,105,101,110,116,32,114,97,100,105,97,108,71,114,97,100,105,101,110,116,32,116,101,120,116,80,97,116,104]
abbrev aTr:List UInt8:=[97,100,100,114,101,115,115,32,97,114,116,105,99,108,101,32,97,115,105,100,101,32,98,108,111,99,107,113,117,111,116,101,32,98,117,116,116,111,110,32,99,101,110,116,101,114,32,100,101,116,97,105,108,115,32,100,105,97,108,111,103,32,100,105,114,32,100,105,118,32,100,108,32,102,105,101,108,100,115,101,116,32,102,105,103,99,97,112,116,105,111,110,32,102,105,103,117,114,101,32,102,111,111,116,101,114,32,104,101,97,100,101,114,32,104,103,114,111,117,112,32,108,105,115,116,105,110,103,32,109,97,105,110,32,109,101,110,117,32,110,97,118,32,111,108,32,112,114,101,32,115,101,97,114,99,104,32,115,101,99,116,105,111,110,32,115,117,109,109,97,114,121,32,117,108]
abbrev aTs:List UInt8:=[98,97,115,101,32,98,97,115,101,102,111,110,116,32,98,103,115,111,117,110,100,32,108,105,110,107,32,109,101,116,97,32,110,111,102,114,97,109,101,115,32,115,99,114,105,112,116,32,115,116,121,108,101,32,116,101,109,112,108,97,116,101,32,116,105,116,108,101]
abbrev aTt:List UInt8:=[97,100,100,114,101,115,115,32,97,114,116,105,99,108,101,32,97,115,105,100,101,32,98,108,111,99,107,113,117,111,116,101,32,99,101,110,116,101,114,32,100,101,116,97,105,108,115,32,100,105,97,108,111,103,32,100,105,114,32,100,105,118,32,100,108,32,102,105,101,108,100,115,101,116,32,102,105,103,99,97,112,116,105,111,110,32,102,105,103,117,114,101,32,102,111,111,116,101,114,32,104,101,97,100,101,114,32,104,103,114,111,117,112,32,109,97,105,110,32,109,101,110,117,32,110,97,118,32,111,108,32,112,32,115,101,97,114,99,104,32,115,101,99,116,105,111,110,32,115,117,109,109,97,114,121,32,117,108]
abbrev aTu:List UInt8:=[104,116,109,108]
abbrev aTv:List UInt8:=[116,101,109,112,108,97,116,101]
abbrev aTw:List UInt8:=[98,117,116,116,111,110]
abbrev aTx:List UInt8:=[104,101,97,100]
abbrev aTy:List UInt8:=[98,111,100,121]
abbrev aTz:List UInt8:=[97,114,101,97,32,98,114,32,101,109,98,101,100,32,105,109,103,32,105,109,97,103,101,32,107,101,121,103,101,110,32,119,98,114,32,105,110,112,117,116,32,112,97,114,97,109,32,115,111,117,114,99,101,32,116,114,97,99,107,32,104,114]
abbrev aTA:List UInt8:=[99,97,112,116,105,111,110,32,99,111,108,32,99,111,108,103,114,111,117,112,32,102,114,97,109,101,32,104,101,97,100,32,116,98,111,100,121,32,116,100,32,116,102,111,111,116,32,116,104,32,116,104,101,97,100,32,116,114]
abbrev aTB:List UInt8:=[97,32,98,32,98,105,103,32,99,111,100,101,32,101,109,32,102,111,110,116,32,105,32,110,111,98,114,32,115,32,115,109,97,108,108,32,115,116,114,105,107,101,32,115,116,114,111,110,103,32,116,116,32,117]
abbrev aTC:List UInt8:=[45,47,47,87,51,67,47,47,68,84,68,32,72,84,77,76,32,69,120,112,101,114,105,109,101,110,116,97,108,32,49,57,57,54,48,55,49,50,47,47]
abbrev aTD:List UInt8:=[102,114,97,109,101,115,101,116]
abbrev aTE:List UInt8:=[110,111,115,99,114,105,112,116]
abbrev aTF:List UInt8:=[45,47,47,87,51,67,47,47,68,84,68,32,72,84,77,76,32,69,120,112,101,114,105,109,101,110,116,97,108,32,57,55,48,52,50,49,47,47]
abbrev aTG:List UInt8:=[104,49,32,104,50,32,104,51,32,104,52,32,104,53,32,104,54]
abbrev aTH:List UInt8:=[98,32,98,105,103,32,99,111,100,101,32,101,109,32,102,111,110,116,32,105,32,115,32,115,109,97,108,108,32,115,116,114,105,107,101,32,115,116,114,111,110,103,32,116,116,32,117]
abbrev aTI:List UInt8:=[45,47,47,87,51,67,47,47,68,84,68,32,72,84,77,76,32,52,46,48,32,84,114,97,110,115,105,116,105,111,110,97,108,47,47]
abbrev aTJ:List UInt8:=[116,105,116,108,101]
abbrev aTK:List UInt8:=[97,110,110,111,116,97,116,105,111,110,45,120,109,108]
abbrev aTL:List UInt8:=[116,97,98,108,101]
abbrev aTM:List UInt8:=[97,112,112,108,101,116,32,109,97,114,113,117,101,101,32,111,98,106,101,99,116]
abbrev aTN:List UInt8:=[98,97,115,101,102,111,110,116,32,98,103,115,111,117,110,100,32,108,105,110,107,32,109,101,116,97,32,110,111,102,114,97,109,101,115,32,115,116,121,108,101]
abbrev aTO:List UInt8:=[111,112,116,105,111,110]
abbrev aTP:List UInt8:=[45,47,47,87,51,67,47,47,68,84,68,32,72,84,77,76,32,52,46,48,32,70,114,97,109,101,115,101,116,47,47]
abbrev aTQ:List UInt8:=[45,47,47,87,51,67,47,47,68,84,68,32,72,84,77,76,32,51,32,49,57,57,53,45,48,51,45,50,52,47,47]
abbrev aTR:List UInt8:=[116,101,120,116,97,114,101,97,32,120,109,112,32,105,102,114,97,109,101,32,110,111,101,109,98,101,100,32,112,108,97,105,110,116,101,120,116]
abbrev aTS:List UInt8:=[99,97,112,116,105,111,110,32,99,111,108,103,114,111,117,112,32,116,98,111,100,121,32,116,102,111,111,116,32,116,104,101,97,100]
abbrev aTT:List UInt8:=[110,111,98,114]
abbrev aTU:List UInt8:=[99,97,112,116,105,111,110]
abbrev aTV:List UInt8:=[115,99,114,105,112,116]
abbrev aTW:List UInt8:=[45,47,47,87,51,67,47,47,68,84,68,32,72,84,77,76,32,52,46,48,49,32,84,114,97,110,115,105,116,105,111,110,97,108,47,47]
abbrev aTX:List UInt8:=[45,47,47,73,69,84,70,47,47,68,84,68,32,72,84,77,76,32,76,101,118,101,108,32]
abbrev aTY:List UInt8:=[45,47,47,73,69,84,70,47,47,68,84,68,32,72,84,77,76,32,83,116,114,105,99,116]
abbrev aTZ:List UInt8:=[98,97,115,101,32,98,97,115,101,102,111,110,116,32,98,103,115,111,117,110,100,32,108,105,110,107,32,109,101,116,97]
abbrev aT0:List UInt8:=[45,47,47,87,51,79,47,47,68,84,68,32,87,51,32,72,84,77,76,32,51,46,48,47,47]
abbrev aT1:List UInt8:=[45,47,47,87,51,79,47,47,68,84,68,32,87,51,32,72,84,77,76,32,83,116,114,105,99,116,32,51,46,48,47,47,69,78,47,47]
abbrev aT2:List UInt8:=[45,47,87,51,67,47,68,84,68,32,72,84,77,76,32,52,46,48,32,84,114,97,110,115,105,116,105,111,110,97,108,47,69,78]
abbrev aT3:List UInt8:=[45,47,47,73,69,84,70,47,47,68,84,68,32,72,84,77,76,32,50,46,49,69,47,47]
abbrev aT4:List UInt8:=[45,47,47,87,51,67,47,47,68,84,68,32,72,84,77,76,32,52,46,48,49,32,70,114,97,109,101,115,101,116,47,47]
abbrev aT5:List UInt8:=[102,111,114,101,105,103,110,79,98,106,101,99,116]
abbrev aT6:List UInt8:=[111,112,116,103,114,111,117,112]
abbrev aT7:List UInt8:=[104,101,97,100,32,116,101,109,112,108,97,116,101,32,98,111,100,121,32,104,116,109,108,32,98,114]
abbrev aT8:List UInt8:=[99,111,108,103,114,111,117,112]
abbrev aT9:List UInt8:=[115,101,108,101,99,116]
abbrev aUa:List UInt8:=[45,47,47,73,69,84,70,47,47,68,84,68,32,72,84,77,76,32,50,46,48]
abbrev aUb:List UInt8:=[45,47,47,87,51,67,47,47,68,84,68,32,87,51,32,72,84,77,76,47,47]
abbrev aUc:List UInt8:=[104,101,97,100,32,98,111,100,121,32,104,116,109,108,32,98,114]
abbrev aUd:List UInt8:=[45,47,47,87,51,67,47,47,68,84,68,32,72,84,77,76,32,51,46,50]
abbrev aUe:List UInt8:=[45,47,47,73,69,84,70,47,47,68,84,68,32,72,84,77,76,32,51]
abbrev aUf:List UInt8:=[45,47,47,73,69,84,70,47,47,68,84,68,32,72,84,77,76,47,47]
abbrev aUg:List UInt8:=[102,111,114,109]
abbrev aUh:List UInt8:=[116,102,111,111,116]
abbrev aUi:List UInt8:=[116,98,111,100,121]
abbrev aUj:List UInt8:=[116,104,101,97,100]
abbrev aUk:List UInt8:=[97,112,112,108,105,99,97,116,105,111,110,47,120,104,116,109,108,43,120,109,108]
abbrev aUl:List UInt8:=[116,101,109,112,108,97,116,101,32,98,111,100,121,32,104,116,109,108,32,98,114]
abbrev aUm:List UInt8:=[120,108,105,110,107,58,97,114,99,114,111,108,101]
abbrev aUn:List UInt8:=[104,105,100,100,101,110]
abbrev aUo:List UInt8:=[120,108,105,110,107,58,97,99,116,117,97,116,101]
abbrev aUp:List UInt8:=[112,108,97,105,110,116,101,120,116]
abbrev aUq:List UInt8:=[120,108,105,110,107,58,116,105,116,108,101]
abbrev aUr:List UInt8:=[120,109,108,110,115,58,120,108,105,110,107]
abbrev aUs:List UInt8:=[120,109,108,110,115]
abbrev aUt:List UInt8:=[116,101,120,116,97,114,101,97]
abbrev aUu:List UInt8:=[120,108,105,110,107,58,104,114,101,102]
abbrev aUv:List UInt8:=[120,108,105,110,107,58,114,111,108,101]
abbrev aUw:List UInt8:=[120,108,105,110,107,58,115,104,111,119]
abbrev aUx:List UInt8:=[120,108,105,110,107,58,116,121,112,101]
abbrev aUy:List UInt8:=[111,112,116,103,114,111,117,112,32,111,112,116,105,111,110]
abbrev aUz:List UInt8:=[116,121,112,101]
abbrev aUA:List UInt8:=[109,97,114,113,117,101,101]
abbrev aUB:List UInt8:=[114,117,98,121]
abbrev aUC:List UInt8:=[110,111,102,114,97,109,101,115,32,115,116,121,108,101]
abbrev aUD:List UInt8:=[100,101,102,105,110,105,116,105,111,110,117,114,108]
abbrev aUE:List UInt8:=[120,109,108,58,115,112,97,99,101]
abbrev aUF:List UInt8:=[100,101,102,105,110,105,116,105,111,110,85,82,76]
abbrev aUG:List UInt8:=[104,101,97,100,32,110,111,115,99,114,105,112,116]
abbrev aUH:List UInt8:=[97,100,100,114,101,115,115,32,100,105,118,32,112]
abbrev aUI:List UInt8:=[114,116,99]
abbrev aUJ:List UInt8:=[97,112,112,108,101,116]
abbrev aUK:List UInt8:=[115,111,117,114,99,101]
abbrev aUL:List UInt8:=[105,102,114,97,109,101]
abbrev aUM:List UInt8:=[110,111,102,114,97,109,101,115]
abbrev aUN:List UInt8:=[120,109,108,58,108,97,110,103]
abbrev aUO:List UInt8:=[98,97,115,101,102,111,110,116]
abbrev aUP:List UInt8:=[111,98,106,101,99,116]
abbrev aUQ:List UInt8:=[112,114,101,32,108,105,115,116,105,110,103]
abbrev aUR:List UInt8:=[114,98,32,114,116,99,32,114,112,32,114,116]
abbrev aUS:List UInt8:=[110,111,115,99,114,105,112,116,32,98,114]
abbrev aUT:List UInt8:=[105,110,112,117,116]
abbrev aUU:List UInt8:=[98,103,115,111,117,110,100]
abbrev aUV:List UInt8:=[97,100,100,114,101,115,115]
abbrev aUW:List UInt8:=[97,114,99,114,111,108,101]
abbrev aUX:List UInt8:=[105,109,97,103,101]
abbrev aUY:List UInt8:=[109,97,116,104]
abbrev aUZ:List UInt8:=[97,99,116,117,97,116,101]
abbrev aU0:List UInt8:=[98,108,111,99,107,113,117,111,116,101]
abbrev aU1:List UInt8:=[102,105,103,99,97,112,116,105,111,110]
abbrev aU2:List UInt8:=[112,32,108,105,32,100,100,32,100,116]
abbrev aU3:List UInt8:=[112,97,114,97,109]
abbrev aU4:List UInt8:=[116,114,97,99,107]
abbrev aU5:List UInt8:=[116,101,120,116,47,104,116,109,108]
abbrev aU6:List UInt8:=[99,111,108]
abbrev aU7:List UInt8:=[104,116,109,108,32,98,111,100,121]
abbrev aU8:List UInt8:=[102,105,101,108,100,115,101,116]
abbrev aU9:List UInt8:=[105,109,103]
abbrev aVa:List UInt8:=[100,101,115,99]
abbrev aVb:List UInt8:=[101,110,99,111,100,105,110,103]
abbrev aVc:List UInt8:=[120,108,105,110,107]
abbrev aVd:List UInt8:=[115,116,121,108,101]
abbrev aVe:List UInt8:=[109,97,116,104,32,115,118,103]
abbrev aVf:List UInt8:=[108,105,32,100,100,32,100,116]
abbrev aVg:List UInt8:=[100,100,32,100,116]
abbrev aVi:List UInt8:=[115,112,97,99,101]
abbrev aVn:List UInt8:=[120,109,112]
abbrev aVo:List UInt8:=[104,114,101,102]
abbrev aVp:List UInt8:=[114,111,108,101]
abbrev aVq:List UInt8:=[115,104,111,119]
abbrev aVr:List UInt8:=[108,105,110,107]
theorem Ac{p:Prop}(h:p:=by omega):p:=h
theorem Ax{p:Prop}(h:p:=by simp):p:=h
theorem AI{p:Prop}(h:p:=by decide):p:=h
theorem D8{p:Prop}(h:p:=by decide +kernel):p:=h
theorem Hb{p:Prop}(h:p:=by simp only; omega):p:=h
theorem Ed{p:Prop}(h:p:=by simp; omega):p:=h
theorem It{p:Prop}(h:p:=by simp[Go.Op.operands]):p:=h
theorem QU{p:Prop}(h:p:=by simp[Go.Value.cells,Go.Value.oneCell']):p:=h
section
section
namespace Go.Am
abbrev Ak:=List UInt8
inductive Aa where
 |bool (b:Bool)
 |int (k:IntKind) (n:Int)
 |str (s:Ak)
 |ptr (p:Option (Nat×Nat))
 |BW (cells:List Aa)
 |sl (size:Nat) (Aw:List (List Aa))
 |slnil
 |EC (size:Nat)
 |CW (id off len size:Nat)
 |map (m:Option Nat)
 |func (fn:Fn) (first captured:List Aa)
 |nilFunc
 |iface (t:TypeId) (v:Aa)
 |nilIface
 |agg (cells:List Aa)
 |tuple (vs:List Aa)
 deriving Inhabited
mutual
def Aa.beq:Aa->Aa->Bool
 | .bool a,.bool b=>a==b
 | .int k a,.int l b=>k==l&&a==b
 | .str a,.str b=>a==b
 | .ptr a,.ptr b=>a==b
 | .BW a,.BW b=>Aa.Rw a b
 | .sl n a,.sl m b=>n==m&&Aa.Rx a b
 | .slnil,.slnil=>true
 | .EC a,.EC b=>a==b
 | .CW a b c d,.CW a' b' c' e=>a==a'&&b==b'&&c==c'&&d==e
 | .map a,.map b=>a==b
 | .func f a b,.func f' a' b'=>f==f'&&Aa.Rw a a'&&Aa.Rw b b'
 | .nilFunc,.nilFunc=>true
 | .iface t a,.iface t' a'=>t==t'&&Aa.beq a a'
 | .nilIface,.nilIface=>true
 | .agg a,.agg b=>Aa.Rw a b
 | .tuple a,.tuple b=>Aa.Rw a b
 |_,_=>false
def Aa.Rw:List Aa->List Aa->Bool
 |[],[]=>true
 |a::x,b::y=>Aa.beq a b&&Aa.Rw x y
 |_,_=>false
def Aa.Rx:List (List Aa)->List (List Aa)->Bool
 |[],[]=>true
 |a::x,b::y=>Aa.Rw a b&&Aa.Rx x y
 |_,_=>false
end
def Aa.cells:Aa->List Aa
 | .agg cs=>cs
 | .tuple _=>[]
 |v=>[v]
inductive Ej where
 |cells (cs:List Aa)
 |map (es:List (Aa×Aa))
 |Ds
 deriving Inhabited
abbrev Ah:=List Ej
inductive gx where
 |copy (size:Nat)
 |clear (size:Nat) (zero:List Aa)
 |yZ (size:Nat) (lo hi:Bool)
 |lR (size:Nat)
 |aEk (t:TypeId)
 |zA (zero:Aa) (ok:Bool)
 |NA (zero:Aa)
 |VE (zero:Aa)
 |Kf
 |S2
 |zB
 |S3 (g:Ah->List Aa->Option (Ah×Aa))
def gx.aEl:gx->Bool
 | .lR _| .clear _ _| .Kf| .S2=>true
 |_=>false
inductive D3 where
 |undef
 |skip
 |val (v:Aa)
 |OL (b:Bool)
 |BM (v:Aa)
 |box (ver:Nat) (cells:List Aa) (BM:List Nat)
 |EW (s off:Nat)
 deriving Inhabited
abbrev BJ:=List D3
def BJ.at(U:BJ)(s:Nat):D3:=U.getD s .undef
def D3.GV:D3->Option Aa
 | .val v| .BM v=>some v
 | .OL b=>some (.bool b)
 |_=>none
inductive FK where
 |b|i|s
 deriving DecidableEq,Inhabited
inductive NK where
 |sl|fn|mp
 deriving DecidableEq,Inhabited
inductive X8 where
 |int (op:BinOp)
 |str (op:BinOp)
 |beq (neg:Bool)
 |geq (neg:Bool) (ks:List FK)
 |Ru (neg:Bool)
 |Ff (neg:Bool) (k:NK)
 |un (op:UnOp)
 |conv(k:IntKind)
 |pick
 |part (off:Nat) (n:Option Nat)
 |ō (len size:Nat) (n:Option Nat)
 |UH
 |Fg (off:Nat)
 |FH (size:Nat)
 |TY (len size:Nat)
 |len (isStr:Bool)
 |append (size bytes:Nat)
 |PQ (size:Nat) (isStr lo hi:Bool)
 |ext (i:Nat)
 |LI
 |Cl (size:Nat)
 |EC (size:Nat)
 |BV (zero:List Aa) (places:List (Nat×Nat))
 |Ld (isMax:Bool)
 |Yc
 |s2b
 |i2s
 deriving Inhabited
def OT:Value->Option Aa
 | .bool b=>some (.bool b)
 | .int k n=>some (.int k n)
 | .string s=>some (.str s.data.toList)
 | .pointer none=>some (.ptr none)
 | .slice none 0 0=>some .slnil
 | .map none=>some (.map none)
 | .func fn f c=>if f.size=0/\c.size=0 then some (.func fn [] []) else none
 | .nilFunc=>some .nilFunc
 | .nilIface=>some .nilIface
 |_=>none
def LA:List Value->Option (List Aa)
 |[]=>some []
 |v::vs=>match OT v,LA vs with
  |some a,some as=>some (a::as)
  |_,_=>none
def KD:Value->Option Aa
 | .agg cs=>(LA cs.toList).map .agg
 |v=>OT v
def PR:Sem Value->Option Value
 | .pure v=>some v
 |_=>none
def AK:Nat:=140737488355328
def qO(op:BinOp)(k:IntKind)(a:Int)(l:IntKind)(b:Int):Option Aa:=
 (PR (binOp op 0 (.int k a) (.int l b))).bind λv=>match v with
  | .int k n=>some (.int k n)
  | .bool b=>some (.bool b)
  |_=>none
def fH(op:BinOp)(a b:Ak):Option Aa:=
 match op with
 | .add=>if a.length+b.length<=9223372036854775807 then some (.str (a++b)) else none
 | .eql=>some (.bool (a==b))
 | .neq=>some (.bool (!(a==b)))
 | .lss=>some (.bool (Op.bytesLess a b))
 | .leq=>some (.bool (Op.bytesLess a b||a==b))
 | .gtr=>some (.bool (!(Op.bytesLess a b||a==b)))
 | .geq=>some (.bool (!(Op.bytesLess a b)))
 |_=>none
def LJ:FK->Aa->Aa->Option Bool
 | .b,.bool a,.bool b=>some (a==b)
 | .i,.int k a,.int l b=>if k=l then some (a==b) else none
 | .s,.str a,.str b=>some (a==b)
 |_,_,_=>none
def DR:List FK->List Aa->List Aa->Option Bool
 |[],[],[]=>some true
 |k::ks,a::x,b::y=>match LJ k a b,DR ks x y with
  |some e,some es=>some (e&&es)
  |_,_=>none
 |_,_,_=>none
def qP:Aa->Aa->Option Bool
 | .ptr none,.ptr b=>some b.isNone
 | .ptr (some _),.ptr none=>some false
 | .ptr (some a),.ptr (some b)=>if a=b then some true else none
 | .ptr none,.BW _=>some false
 | .BW _,.ptr none=>some false
 |_,_=>none
def qQ:NK->Aa->Aa->Option Bool
 | .sl,.slnil,.slnil=>some true
 | .sl,.slnil,.sl _ _=>some false
 | .sl,.sl _ _,.slnil=>some false
 | .sl,.slnil,.EC _=>some false
 | .sl,.EC _,.slnil=>some false
 | .sl,.slnil,.CW _ _ _ _=>some false
 | .sl,.CW _ _ _ _,.slnil=>some false
 | .fn,.nilFunc,.nilFunc=>some true
 | .fn,.nilFunc,.func _ _ _=>some false
 | .fn,.func _ _ _,.nilFunc=>some false
 | .mp,.map none,.map b=>some b.isNone
 | .mp,.map (some _),.map none=>some false
 |_,_,_=>none
def E1(cs:List Aa)(off:Nat):Option Nat->Option Aa
 |none=>cs[off]?
 |some n=>if off+n<=cs.length then some (.agg ((cs.drop off).take n)) else none
def LK(n:Int)(len:Nat):Option Nat:=if 0<=n/\n<len then some n.toNat else none
def Eg(n:Int)(top:Nat):Option Nat:=if 0<=n/\n<=top then some n.toNat else none
def Dx(lo hi:Bool)(len:Nat)(as:List Aa):Option (Nat×Nat):=
 match lo,hi with
 |false,false=>match as with
  |[]=>some (0,len)
  |_=>none
 |false,true=>match as with
  |[.int _ h]=>(Eg h len).map λh=>(0,h)
  |_=>none
 |true,false=>match as with
  |[.int _ l]=>(Eg l len).map λl=>(l,len)
  |_=>none
 |true,true=>match as with
  |[.int _ l,.int _ h]=>(Eg h len).bind λh=>(Eg l h).map λl=>(l,h)
  |_=>none
def Mn:List (List Aa)->Option Ak
 |[]=>some []
 |[.int .u8 n]::rs=>(Mn rs).map λl=>n.toNat.toUInt8::l
 |_=>none
def CY(s:Ak):List (List Aa):=s.map λb=>[.int .u8 b.toNat]
def Dl(size bytes:Nat)(s:Aa)(Aw:List (List Aa)):Option Aa:=
 match Aw with
 |[]=>match s with
  | .slnil=>some .slnil
  | .EC z=>if z=size then some (.EC z) else none
  | .sl z r=>if z=size then some (.sl z r) else none
  |_=>none
 |Aw=>match s with
  | .slnil=>if Aw.length*bytes<=AK then some (.sl size Aw) else none
  | .EC z=>if z=size/\Aw.length*bytes<=AK then some (.sl size Aw) else none
  | .sl z r=>if z=size/\(r.length+Aw.length)*bytes<=AK then some (.sl size (r++Aw)) else none
  |_=>none
def Bv(cs:List Aa):List ((Nat×Nat)×Aa)->Option (List Aa)
 |[]=>some cs
 |((off,size),v)::rest=>if 0<size/\v.cells.length=size/\off+size<=cs.length then Bv (cs.take off++v.cells++cs.drop (off+size)) rest else none
def Ć(k:IntKind)(n:Int):Option Aa:=
 (PR (Op.unary .xor (.int k n))).bind λv=>match v with
  | .int k n=>some (.int k n)
  |_=>none
def Ŏ:UnOp->Aa->Option Aa
 | .not,.bool b=>some (.bool (!b))
 | .neg,.int k n=>some (.int k (k.wrap (0 -n)))
 | .xor,.int k n=>Ć k n
 |_,_=>none
def VF(p:Aa)(off:Nat):Option Aa:=
 match p with
 | .BW cs=>some (.BW (cs.drop off))
 | .ptr (some (id,o))=>some (.ptr (some (id,o+off)))
 |_=>none
def elemOf(size:Nat)(s:Aa)(i:Int):Option Aa:=
 match s with
 | .sl z Aw=>if z=size then(if 0<=i then(Aw[i.toNat]?).map .BW else none) else none
 | .CW id off len z=>if z=size then(LK i len).map λi=> .ptr (some (id,off+i*size)) else none
 |_=>none
def lenOf(isStr:Bool)(s:Aa):Option Aa:=
 match s with
 | .sl _ Aw=>if isStr then none else some (.int .i64 Aw.length)
 | .CW _ _ n _=>if isStr then none else some (.int .i64 n)
 | .slnil=>if isStr then none else some (.int .i64 0)
 | .EC _=>if isStr then none else some (.int .i64 0)
 | .str s=>if isStr then some (.int .i64 s.length) else none
 |_=>none
def Ht(size bytes:Nat)(s x:Aa):Option Aa:=
 match x with
 | .slnil=>Dl size bytes s []
 | .EC z=>if z=size then Dl size bytes s [] else none
 | .sl z Aw=>if z=size then Dl size bytes s Aw else none
 | .str x=>if size=1 then Dl size bytes s (CY x) else none
 |_=>none
def Io(size:Nat)(isStr lo hi:Bool)(s:Aa)(as:List Aa):Option Aa:=
 match s with
 | .str s=>if isStr then(Dx lo hi s.length as).map λ(l,h)=> .str ((s.take h).drop l) else none
 | .sl z Aw=>if isStr=false/\z=size then(Dx lo hi Aw.length as).map λ(l,h)=> .sl z ((Aw.take h).drop l) else none
 | .CW id off n z=>if isStr=false/\z=size then(Dx lo hi n as).bind λ(l,h)=>if l<n then some (.CW id (off+l*z) (h-l) z) else some (.sl z []) else none
 | .slnil=>if isStr then none else(Dx lo hi 0 as).map λ_=> .slnil
 |_=>none
def fI:Aa->Option Aa
 | .ptr (some p)=>some (.ptr (some p))
 | .BW cs=>some (.BW cs)
 | .func (.func f) a b=>some (.func (.func f) a b)
 |_=>none
def Z4:Aa->Option Aa
 | .sl 1 Aw=>(Mn Aw).map .str
 | .slnil=>some (.str [])
 |_=>none
def Ay(p:X8)(args:List Aa):Option Aa:=
 match p with
 | .int op=>match args with
  |[.int k a,.int l b]=>qO op k a l b
  |_=>none
 | .str op=>match args with
  |[.str a,.str b]=>fH op a b
  |_=>none
 | .beq neg=>match args with
  |[.bool a,.bool b]=>some (.bool ((a==b) != neg))
  |_=>none
 | .geq neg ks=>match args with
  |[.agg a,.agg b]=>(DR ks a b).map λe=> .bool (e != neg)
  |_=>none
 | .Ru neg=>match args with
  |[a,b]=>(qP a b).map λe=> .bool (e != neg)
  |_=>none
 | .Ff neg k=>match args with
  |[a,b]=>(qQ k a b).map λe=> .bool (e != neg)
  |_=>none
 | .un op=>match args with
  |[v]=>Ŏ op v
  |_=>none
 | .conv k=>match args with
  |[.int _ n]=>some (.int k (k.wrap n))
  |_=>none
 | .i2s=>match args with
  |[.int _ n]=>some (.str (Utf8.encode n).data.toList)
  |_=>none
 | .pick=>match args with
  |[.bool c,a,b]=>some (if c then a else b)
  |_=>none
 | .part off n=>match args with
  |[.agg cs]=>E1 cs off n
  |_=>none
 | .ō len size n=>match args with
  |[.agg cs,.int _ i]=>(LK i len).bind λi=>E1 cs (i*size) n
  |_=>none
 | .UH=>match args with
  |[.str s,.int _ i]=>if 0<=i then(s[i.toNat]?).map λb=> .int .u8 b.toNat else none
  |_=>none
 | .Fg off=>match args with
  |[p]=>VF p off
  |_=>none
 | .FH size=>match args with
  |[s,.int _ i]=>elemOf size s i
  |_=>none
 | .TY len size=>match args with
  |[p,.int _ i]=>(LK i len).bind λi=>VF p (i*size)
  |_=>none
 | .len isStr=>match args with
  |[s]=>lenOf isStr s
  |_=>none
 | .append size bytes=>match args with
  |[s,x]=>Ht size bytes s x
  |_=>none
 | .PQ size isStr lo hi=>match args with
  |s::as=>Io size isStr lo hi s as
  |_=>none
 | .ext i=>match args with
  |[.tuple vs]=>vs[i]?
  |_=>none
 | .LI=>match args with
  |[v]=>fI v
  |_=>none
 | .Cl size=>if args.all (λa=>a.cells.length==size)&&decide (args.length*size<=16777216) then some (.sl size (args.map (·.cells))) else none
 | .EC size=>if args.isEmpty then some (.EC size) else none
 | .BV zero places=>if places.length=args.length then(Bv zero (places.zip args)).map .agg else none
 | .Ld isMax=>match args with
  |[.int k a,.int l b]=>if k=l then some (.int k (if isMax then(if b>a then b else a) else(if b<a then b else a))) else none
  |_=>none
 | .Yc=>match args with
  |[v]=>Z4 v
  |_=>none
 | .s2b=>match args with
  |[.str s]=>if s.length<=AK then some (.sl 1 (CY s)) else none
  |_=>none
inductive FO where
 |normal
 |exit (id:Nat)
 |ret
 deriving DecidableEq,Inhabited
inductive IT where
 |ret (x:FO) (vs:List Aa)
 |fail
 |op (o:X8) (args:List Aa) (k:Aa->IT)
 |cells (n:Nat) (v:Aa) (k:List Aa->IT)
 |AH (c:Aa) (t e:IT)
 |load (n:Option Nat) (p:Aa) (k:Aa->IT)
 |store (n:Nat) (p v:Aa) (k:IT)
 |alloc (n:Nat) (v:Aa) (k:Aa->IT)
 |call (f:FuncId) (args:List Aa) (k:Aa->IT)
 |D4 (fn:Aa) (args:List Aa) (k:Aa->IT)
 |BG (f:FuncId) (args:List Aa) (k:Aa->IT)
 |loop (key:Nat) (init:List Aa) (body:List Aa->IT) (k:FO->List Aa->IT)
 |F9 (key:Nat) (t:IT) (k:FO->List Aa->IT)
 |same (a b:Aa) (k:IT)
 |MY (k:Aa->IT)
 |Hu (m key v:Aa) (k:IT)
 |LL (zero:Aa) (ok:Bool) (m key:Aa) (k:Aa->IT)
 |make (size bytes:Nat) (zero:List Aa) (len cap:Aa) (k:Aa->IT)
 |Jk (size bytes:Nat) (s x:Aa) (k:Aa->IT)
 |EO (s:Aa) (k:Aa->IT)
 |UI (v:Aa) (k:Aa->IT)
 |H6 (off:Nat) (p:Aa) (k:IT)
 |FQ (size bytes:Nat) (s x:Aa) (k:Aa->IT)
 |F8 (size bytes:Nat) (s x:Aa) (k:Aa->IT)
 |mem (o:gx) (args:List Aa) (k:Aa->IT)
 |qR (f:FuncId) (args:List Aa) (k:Aa->IT)
 deriving Inhabited
def Aa.Mf:Aa->Bool
 | .bool _| .int _ _| .str _=>true
 |_=>false
def Bi(h:Ah)(n:Option Nat):Aa->Option Aa
 | .BW cs=>E1 cs 0 n
 | .ptr (some (id,off))=>match h[id]? with
  |some (.cells cs)=>E1 cs off n
  |_=>none
 |_=>none
def CH(h:Ah)(n:Nat)(p v:Aa):Option Ah:=
 match p with
 | .ptr (some (id,off))=>match h[id]? with
  |some (.cells cs)=>if v.cells.length=n/\off+n<=cs.length then some (h.set id (.cells (cs.take off++v.cells++cs.drop (off+n)))) else none
  |_=>none
 |_=>none
def VG(h:Ah)(n:Nat)(v:Aa):Option (Ah×Aa):=
 if v.cells.length=n then some (h++[.cells v.cells],.ptr (some (h.length,0))) else none
def Ry(s:Ak):List (Aa×Aa)->Option (Option Aa)
 |[]=>some none
 |(.str t,v)::es=>if s=t then some (some v) else Ry s es
 |_=>none
def MZ(s:Ak)(v:Aa):List (Aa×Aa)->Option (List (Aa×Aa))
 |[]=>some [(.str s,v)]
 |(.str t,v')::es=>if s=t then some ((.str s,v)::es) else(MZ s v es).map λes=>(.str t,v')::es
 |_=>none
def Qs(h:Ah)(m k v:Aa):Option Ah:=
 match m,k with
 | .map (some id),.str s=>match h[id]? with
  |some (.map es)=>(MZ s v es).map λes=>h.set id (.map es)
  |_=>none
 |_,_=>none
def S4(h:Ah)(m k:Aa):Option (Option Aa):=
 match m,k with
 | .map none,.str _=>some none
 | .map (some id),.str s=>match h[id]? with
  |some (.map es)=>Ry s es
  |_=>none
 |_,_=>none
def Oo(h:Ah)(zero:Aa)(ok:Bool)(m k:Aa):Option Aa:=
 (S4 h m k).map λr=>match r with
  |some v=>if ok then .tuple [v,.bool true] else v
  |none=>if ok then .tuple [zero,.bool false] else zero
def Rz(h:Ah)(size bytes:Nat)(zero:List Aa):Aa->Aa->Option (Ah×Aa)
 | .int .i64 n,.int .i64 c=>if 0<=n/\n<=c/\c.toNat*bytes<=AK/\zero.length=size then
  some (h++[.cells (List.replicate c.toNat zero).flatten],.CW h.length 0 n.toNat size) else none
 |_,_=>none
def NB(size:Nat):Aa->Bool
 | .slnil=>true
 | .EC z=>z==size
 | .sl z []=>z==size
 |_=>false
def Kg(h:Ah)(size bytes:Nat)(s:Aa):Aa->Option (Ah×Aa)
 | .sl z Aw=>if NB size s then(match Aw with
   |[]=>some (h,s)
   |Aw=>if z=size/\Aw.length*bytes<=AK then some (h++[.cells Aw.flatten],.CW h.length 0 Aw.length size) else none)
  else none
 | .slnil=>if NB size s then some (h,s) else none
 | .EC z=>if NB size s&&z==size then some (h,s) else none
 |_=>none
def Ip(h:Ah):Aa->Option (Ah×Aa)
 | .str s=>if s.length<=AK then some (h++[.cells (s.map λb=> .int .u8 b.toNat)],.CW h.length 0 s.length 1) else none
 |_=>none
def Cs(cs:List Aa)(z:Nat):Nat->Nat->List (List Aa)
 |_,0=>[]
 |off,n+1=>(cs.drop off).take z::Cs cs z (off+z) n
def KO(h:Ah):Aa->Option (Ah×Aa)
 | .CW id off n z=>match h[id]? with
  |some (.cells cs)=>if off+n*z<=cs.length then some (h.set id .Ds,.sl z (Cs cs z off n)) else none
  |_=>none
 |v=>some (h,v)
def Kh(h:Ah)(off:Nat)(p:Aa):Option Ah:=
 match p with
 | .ptr none=>some h
 | .ptr (some (id,o))=>match h[id]? with
  |some (.cells cs)=>match cs[o+off]? with
   |some v=>(KO h v).bind λ(h',v')=>match h'[id]? with
    |some (.cells Gx)=>some (h'.set id (.cells (Gx.set (o+off) v')))
    |_=>none
   |none=>none
  |_=>none
 |_=>none
def Gb(h:Ah)(size:Nat):Aa->Option (List (List Aa))
 | .slnil=>some []
 | .EC z=>if z=size then some [] else none
 | .sl z Aw=>if z=size then some Aw else none
 | .str s=>if size=1 then some (CY s) else none
 | .CW id off n z=>if z=size then match h[id]? with
   |some (.cells cs)=>if off+n*z<=cs.length then some (Cs cs z off n) else none
   |_=>none
  else none
 |_=>none
def FT(h:Ah)(size bytes:Nat)(s x:Aa):Option (Ah×Aa):=
 match Gb h size x with
 |none=>none
 |some []=>match s with
  | .slnil=>some (h,s)
  | .EC z=>if z=size then some (h,s) else none
  | .CW _ _ _ z=>if z=size then some (h,s) else none
  |_=>none
 |some Aw=>match s with
  | .slnil=>if Aw.length*bytes<=AK then some (h++[.cells Aw.flatten],.CW h.length 0 Aw.length size) else none
  | .EC z=>if z=size/\Aw.length*bytes<=AK then some (h++[.cells Aw.flatten],.CW h.length 0 Aw.length size) else none
  | .CW id off n z=>match h[id]? with
   |some (.cells cs)=>if z=size then
     (if off+(n+Aw.length)*z<=cs.length then some (h.set id (.cells (cs.take (off+n*z)++Aw.flatten++cs.drop (off+(n+Aw.length)*z))),.CW id off (n+Aw.length) z)
     else if off=0/\n*z<=cs.length/\(n+Aw.length)*bytes<=AK then some (h.set id .Ds++[.cells (cs.take (n*z)++Aw.flatten)],.CW h.length 0 (n+Aw.length) z) else none)
    else none
   |_=>none
  |_=>none
def Qt(h:Ah)(size bytes:Nat)(s x:Aa):Option Aa:=(Gb h size x).bind (Dl size bytes s)
def qS(h:Ah)(size:Nat)(d x:Aa):Option (Ah×Aa):=
 match Gb h size x with
 |none=>none
 |some Aw=>match d with
  | .slnil=>if Aw.length=0 then some (h,.int .i64 0) else none
  | .CW id off n z=>match h[id]? with
   |some (.cells cs)=>if z=size/\Aw.length<=n/\off+n*z<=cs.length then some (h.set id (.cells (cs.take off++Aw.flatten++cs.drop (off+Aw.length*z))),.int .i64 Aw.length) else none
   |_=>none
  |_=>none
def VH(h:Ah)(size:Nat)(zero:List Aa):Aa->Option (Ah×Aa)
 | .slnil=>some (h,.bool true)
 | .CW id off n z=>match h[id]? with
  |some (.cells cs)=>if z=size/\zero.length=size/\off+n*z<=cs.length then some (h.set id (.cells (cs.take off++(List.replicate n zero).flatten++cs.drop (off+n*z))),.bool true) else none
  |_=>none
 |_=>none
def fJ(h:Ah)(size:Nat)(lo hi:Bool)(s:Aa)(as:List Aa):Option (Ah×Aa):=
 match s with
 | .CW id off n z=>match h[id]? with
  |some (.cells cs)=>if z=size/\hi=true/\off<=cs.length then(Dx lo hi ((cs.length-off)/z) as).bind λ(l,r)=>if l<(cs.length-off)/z then some (h,.CW id (off+l*z) (r-l) z) else none else none
  |_=>none
 |_=>none
def VI(size:Nat):List Aa->Bool
 |[s,.int _ l,.int _ r,.int _ m]=>match s with
  | .CW _ _ n z=>z=size&&decide (0<=l)&&decide (l<=r)&&decide (r<=m)&&decide (m<=n)
  | .sl z Aw=>z=size&&decide (0<=l)&&decide (l<=r)&&decide (r<=m)&&decide (m<=Aw.length)
  |_=>false
 |_=>false
def H7(k:Int):List (Aa×Aa)->Nat->Option (Option (Nat×Aa))
 |[],_=>some none
 |(.int .i64 t,v)::es,i=>if k=t then some (some (i,v)) else H7 k es (i+1)
 |_,_=>none
def S5(zero:Aa)(ok:Bool):Option (Nat×Aa)->Aa
 |some (_,v)=>if ok then .tuple [v,.bool true] else v
 |none=>if ok then .tuple [zero,.bool false] else zero
def fK(h:Ah)(zero:Aa)(ok:Bool)(m k:Aa):Option (Ah×Aa):=
 match m,k with
 | .map none,.int .i64 _=>some (h,S5 zero ok none)
 | .map (some id),.int .i64 n=>match h[id]? with
  |some (.map es)=>(H7 n es 0).map λr=>(h,S5 zero ok r)
  |_=>none
 |_,_=>none
def Vd(h:Ah)(zero m k:Aa):Option (Ah×Aa):=
 match m,k with
 | .map (some id),.int .i64 n=>match h[id]? with
  |some (.map es)=>(H7 n es 0).map λr=>match r with
   |some (i,v)=>(h,.tuple [v,.int .i64 i])
   |none=>(h.set id (.map (es++[(k,zero)])),.tuple [zero,.int .i64 es.length])
  |_=>none
 |_,_=>none
def QM(k:Ak):List (Aa×Aa)->Nat->Option (Option (Nat×Aa))
 |[],_=>some none
 |(.str t,v)::es,i=>if k=t then some (some (i,v)) else QM k es (i+1)
 |_,_=>none
def Ve(h:Ah)(zero m k:Aa):Option (Ah×Aa):=
 match m,k with
 | .map (some id),.str n=>match h[id]? with
  |some (.map es)=>(QM n es 0).map λr=>match r with
   |some (i,v)=>(h,.tuple [v,.int .i64 i])
   |none=>(h.set id (.map (es++[(k,zero)])),.tuple [zero,.int .i64 es.length])
  |_=>none
 |_,_=>none
def RA(h:Ah)(m i v:Aa):Option (Ah×Aa):=
 match m,i with
 | .map (some id),.int .i64 n=>match h[id]? with
  |some (.map es)=>if 0<=n then match es[n.toNat]? with
   |some (k,_)=>some (h.set id (.map (es.set n.toNat (k,v))),.bool true)
   |none=>none
   else none
  |_=>none
 |_,_=>none
def qT(h:Ah)(m k v:Aa):Option (Ah×Aa):=
 match m,k with
 | .map (some id),.int .i64 n=>match h[id]? with
  |some (.map es)=>match H7 n es 0 with
   |some none=>some (h.set id (.map (es++[(.int .i64 n,v)])),.bool true)
   |_=>none
  |_=>none
 |_,_=>none
def PS(h:Ah):List Aa->Option (Ah×Aa)
 |[.slnil,.int .i64 i,.sl 1 [[.int .i64 x]]]=>if i=0 then some (h++[.cells [.int .i64 x]],.CW h.length 0 1 1) else none
 |[.CW id 0 n 1,.int .i64 i,.sl 1 [[.int .i64 x]]]=>match h[id]? with
  |some (.cells cs)=>if 0<=i/\i.toNat<=n/\n<=cs.length/\(n+1)*8<=AK then some (h.set id .Ds++[.cells (cs.take i.toNat++[.int .i64 x]++(cs.take n).drop i.toNat)],.CW h.length 0 (n+1) 1) else none
  |_=>none
 |_=>none
def DC(o:gx)(h:Ah)(args:List Aa):Option (Ah×Aa):=
 match o with
 | .copy size=>match args with
  |[d,x]=>qS h size d x
  |_=>none
 | .clear size zero=>match args with
  |[s]=>VH h size zero s
  |_=>none
 | .yZ size lo hi=>match args with
  |s::as=>fJ h size lo hi s as
  |_=>none
 | .lR size=>if VI size args then some (h,.bool true) else none
 | .aEk t=>match args with
  |[v]=>some (h,.iface t v)
  |_=>none
 | .zA zero ok=>match args with
  |[m,k]=>fK h zero ok m k
  |_=>none
 | .NA zero=>match args with
  |[m,k]=>Vd h zero m k
  |_=>none
 | .VE zero=>match args with
  |[m,k]=>Ve h zero m k
  |_=>none
 | .Kf=>match args with
  |[m,i,v]=>RA h m i v
  |_=>none
 | .S2=>match args with
  |[m,k,v]=>qT h m k v
  |_=>none
 | .zB=>PS h args
 | .S3 g=>g h args
def Ec(f:FuncId):FuncId:=if f<=99999 then f else f%100000
def Cz:Aa->List Aa->Option (FuncId×List Aa)
 | .func (.func f) first captured,args=>if f<=99999 then some (f,first++args++captured) else none
 |_,_=>none
abbrev Jy:=FO×List Aa×Ah
def IT.step(fn:FuncId->List Aa->IT)(rec:IT->Ah->Option Jy):IT->Ah->Option Jy
 | .ret x vs,h=>some (x,vs,h)
 | .fail,_=>none
 | .op o args k,h=>match Ay o args with
  |some v=>IT.step fn rec (k v) h
  |none=>none
 | .cells n v k,h=>if v.cells.length=n then IT.step fn rec (k v.cells) h else none
 | .AH c t e,h=>match c with
  | .bool true=>IT.step fn rec t h
  | .bool false=>IT.step fn rec e h
  |_=>none
 | .load n p k,h=>match Bi h n p with
  |some v=>IT.step fn rec (k v) h
  |none=>none
 | .store n p v k,h=>match CH h n p v with
  |some h'=>IT.step fn rec k h'
  |none=>none
 | .alloc n v k,h=>match VG h n v with
  |some (h',p)=>IT.step fn rec (k p) h'
  |none=>none
 | .call f args k,h=>match rec (fn f args) h with
  |some (.ret,[r],h')=>IT.step fn rec (k r) h'
  |_=>none
 | .D4 g args k,h=>match Cz g args with
  |some (f,args)=>match rec (fn f args) h with
   |some (.ret,[r],h')=>IT.step fn rec (k r) h'
   |_=>none
  |none=>none
 | .BG f args k,h=>if args.all Aa.Mf then match rec (fn f args) [] with
   |some (.ret,[r],_)=>if r.Mf then IT.step fn rec (k r) h else none
   |_=>none
  else none
 | .loop key init body k,h=>match IT.step fn rec (body init) h with
  |some (.normal,vs,h')=>rec (.loop key vs body k) h'
  |some (x,vs,h')=>IT.step fn rec (k x vs) h'
  |none=>none
 | .F9 _ t k,h=>match IT.step fn rec t h with
  |some (x,vs,h')=>IT.step fn rec (k x vs) h'
  |none=>none
 | .same a b k,h=>if Aa.beq a b then IT.step fn rec k h else none
 | .MY k,h=>IT.step fn rec (k (.map (some h.length))) (h++[.map []])
 | .Hu m key v k,h=>match Qs h m key v with
  |some h'=>IT.step fn rec k h'
  |none=>none
 | .LL zero ok m key k,h=>match Oo h zero ok m key with
  |some v=>IT.step fn rec (k v) h
  |none=>none
 | .make size bytes zero len cap k,h=>match Rz h size bytes zero len cap with
  |some (h',v)=>IT.step fn rec (k v) h'
  |none=>none
 | .Jk size bytes s x k,h=>match Kg h size bytes s x with
  |some (h',v)=>IT.step fn rec (k v) h'
  |none=>none
 | .EO s k,h=>match Ip h s with
  |some (h',v)=>IT.step fn rec (k v) h'
  |none=>none
 | .UI v k,h=>match KO h v with
  |some (h',v')=>IT.step fn rec (k v') h'
  |none=>none
 | .H6 off p k,h=>match Kh h off p with
  |some h'=>IT.step fn rec k h'
  |none=>none
 | .FQ size bytes s x k,h=>match FT h size bytes s x with
  |some (h',v)=>IT.step fn rec (k v) h'
  |none=>none
 | .F8 size bytes s x k,h=>match Qt h size bytes s x with
  |some v=>IT.step fn rec (k v) h
  |none=>none
 | .mem o args k,h=>match DC o h args with
  |some (h',v)=>IT.step fn rec (k v) h'
  |none=>none
 | .qR f args k,h=>match rec (fn f args) [] with
  |some (.ret,[r],_)=>if r.Mf then IT.step fn rec (k r) h else none
  |_=>none
def IT.run(fn:FuncId->List Aa->IT):Nat->IT->Ah->Option Jy
 |0=>λ_ _=>none
 |n+1=>IT.step fn (IT.run fn n)
end Go.Am
end
section
namespace Go.Am
inductive Sh where
 |val
 |BM
 |box (n:Nat) (BM:List Nat)
 deriving Inhabited
inductive qU where
 |OU|heap
 deriving DecidableEq,Inhabited
structure FB where
 P:Program
 ŏ:FuncId->Nat->List (Nat×Sh)
 ć:FuncId->Nat->Option (List (Nat×Sh))
 Ĉ:FuncId->Nat->Option (List (Nat×Sh))
 kind:FuncId->Nat->qU
 I9:FuncId->Bool
 ĉ:FuncId->Bool
 zC:FuncId->Nat->Bool
 Z5:FuncId->Nat->Bool
 gy:FuncId->Bool
 g_:FuncId->List (Nat×Nat)
 Gy:Nat->Option (List Aa)
 Ő:FuncId->Option (List Aa->IT)
 alt:FuncId->FuncId->FuncId
 MG:FuncId->Bool
inductive Em where
 |pure (ws:List (Nat×D3))
 |op (p:X8) (args:List Aa) (dst:Option Nat) (BM:Bool) (Dt:Option (Nat×Aa))
 |box (n:Nat) (v:Aa) (dst:Nat)
 |closure (fn:Fn) (first captured:List Aa) (froze:List (Nat×List Aa)) (dst:Nat)
 |MH (s off n:Nat) (v:Aa) (BM:Bool) (Dt:Option (Nat×Aa)) (ver:Nat) (cells:List Aa) (owned:List Nat)
 |load (n:Option Nat) (p:Aa) (dst:Option Nat)
 |store (n:Nat) (p v:Aa)
 |alloc (n:Nat) (v:Aa) (dst:Option Nat)
 |call (f:FuncId) (args:List Aa) (dst:Option Nat)
 |D4 (g:Aa) (args:List Aa) (dst:Option Nat)
 |BG (f:FuncId) (args:List Aa) (dst:Option Nat)
 |MY (dst:Option Nat)
 |Hu (m k v:Aa)
 |LL (zero:Aa) (ok:Bool) (m k:Aa) (dst:Option Nat)
 |make (size bytes:Nat) (zero:List Aa) (len cap:Aa) (dst:Option Nat)
 |Jk (size bytes:Nat) (s x:Aa) (dst:Option Nat) (Dt:Option (Nat×Aa))
 |FQ (size bytes:Nat) (s x:Aa) (dst:Option Nat)
 |F8 (size bytes:Nat) (s x:Aa) (dst:Option Nat) (Dt:Option (Nat×Aa))
 |EO (s:Aa) (dst:Option Nat)
 |Yc (v:Aa) (dst:Option Nat)
 |mem (o:gx) (args:List Aa) (dst:Option Nat)
def BR(P:Program)(t:TypeId):Option Nat:=(P.info? t).map (·.size)
def JD(P:Program)(t:TypeId):Option Nat:=(P.info? t).map (·.bytes)
def EZ(P:Program)(t:TypeId):Option (Option Nat):=
 match P.underlying t with
 |some (.struct _)|some (.array _ _)=>(BR P t).map some
 |some _=>some none
 |none=>none
def GA(P:Program)(t:TypeId):Option Aa:=((P.info? t).bind (·.zero)).bind KD
def VJ(rec:TypeId->Option (List FK)):List Field->Nat->Option (List FK)
 |[],_=>some []
 |f::fs,off=>if f.name≠ "_"/\f.offset=off then match rec f.type with
   |some ks=>(VJ rec fs (off+ks.length)).map (ks++·)
   |none=>none
  else none
def OV(P:Program):Nat->TypeId->Option (List FK)
 |0,_=>none
 |d+1,t=>
  let one (k:FK):Option (List FK):=if BR P t=some 1 then some [k] else none
  match P.underlying t with
  |some .bool=>one .b
  |some (.int _)=>one .i
  |some .string=>one .s
  |some (.struct fs)=>match VJ (OV P d) fs.toList 0 with
   |some ks=>if BR P t=some ks.length/\P.stoodInHeld t=false then some ks else none
   |none=>none
  |_=>none
def H8(P:Program)(s:TypeId)(f:Nat):Option (Nat×Option Nat):=
 match P.underlying s with
 |some (.struct fs)=>match fs[f]? with
  |some fd=>match BR P fd.type,EZ P fd.type with
   |some (_+1),some sh=>some (fd.offset,sh)
   |_,_=>none
  |none=>none
 |_=>none
def DP(C:FB)(U:BJ):Operand->Option D3
 | .tmp t=>some (U.at t)
 | .const (.bool b)=>some (.OL b)
 | .const (.slice none 0 0)=>some (.BM .slnil)
 | .const v=>(KD v).map .val
 | .global g=>(C.Gy g).map λcs=> .val (.BW cs)
 | .func f=>some (.val (.func (.func f) [] []))
def EF(C:FB)(U:BJ)(x:Operand):Option Aa:=(DP C U x).bind D3.GV
def Bm(C:FB)(U:BJ):List Operand->Option (List Aa)
 |[]=>some []
 |x::xs=>match EF C U x,Bm C U xs with
  |some v,some vs=>some (v::vs)
  |_,_=>none
def h_(ops:List Oper)(d:Nat):Bool:=
 ops.any λo=>match o.op with
  | .call c=>(match c.callee with| .builtin .append=>true|_=>false)&&(match(c.args[0]?:Option Operand) with|some (.tmp t)=>t==d|_=>false)
  |_=>false
def H9:D3->Option D3
 | .val v=>some (.val v)
 | .OL b=>some (.OL b)
 | .BM v=>some (.val v)
 | .EW s o=>some (.EW s o)
 |_=>none
def RB(x:Operand)(v:Aa):List (Nat×D3):=
 match x with
 | .tmp s=>[(s,.val v)]
 |_=>[]
def Ki(C:FB)(U:BJ)(x:Operand)(d:Nat)(take:Bool):Option Em:=
 match x,DP C U x with
 | .tmp s,some (.box _ _ _)=>some (.pure [(d,.EW s 0)])
 | .const _,some sl=>some (.pure [(d,sl)])
 |x,some (.BM v)=>if take then some (.pure (RB x v++[(d,.BM v)])) else(H9 (.BM v)).map λs=> .pure [(d,s)]
 |_,some s=>(H9 s).map λs=> .pure [(d,s)]
 |_,none=>none
def VK(cs:List Aa):List Nat:=(List.range cs.length).filter λi=>match cs.getD i .nilIface with| .slnil=>true|_=>false
def MI(U:BJ)(ds:List Nat):Bool:=U.all λs=>match s with| .EW s _=> !ds.contains s|_=>true
def BJ.drop(U:BJ)(ds:List Nat):BJ:=match ds with|[]=>U|ds=>U.map λs=>match s with| .EW s o=>if ds.contains s then .undef else .EW s o|s=>s
def TZ(C:FB)(fid:FuncId)(t:TypeId)(v:Aa)(d:Nat):Option Em:=
 match BR C.P t with
 |none=>none
 |some n=>if n=0 then none else match C.kind fid d with
  | .OU=>some (.box n v d)
  | .heap=>some (.alloc n v (some d))
inductive ő where
 |OU (s off ver:Nat) (cells:List Aa) (BM:List Nat)
 |ptr (p:Aa)
def FU(C:FB)(U:BJ)(x:Operand):Option ő:=
 match x,DP C U x with
 | .tmp s,some (.box ver cs ow)=>some (.OU s 0 ver cs ow)
 |_,some (.EW s o)=>match U.at s with
  | .box ver cs ow=>some (.OU s o ver cs ow)
  |_=>none
 |_,some s=>s.GV.map .ptr
 |_,none=>none
def C3(U:BJ):Operand->Option (Nat×Aa)
 | .tmp s=>match U.at s with
  | .BM v=>some (s,v)
  |_=>none
 |_=>none
def KP(C:FB)(U:BJ)(x:Operand):Bool:=match DP C U x with|some (.BM _)=>true|_=>false
def Lf(C:FB)(U:BJ)(t:TypeId)(x:Operand)(d:Nat)(take:Bool):Option Em:=
 match EZ C.P t,FU C U x with
 |some n,some (.ptr p)=>some (.load n p (some d))
 |some none,some (.OU s o ver cs ow)=>
  if o<cs.length then
   let v:=cs.getD o .nilIface
   if ow.contains o&& !(ow.erase o).contains o&&take then some (.pure [(s,.box (ver+1) cs (ow.erase o)),(d,.BM v)])
   else some (.pure [(d,.val v)])
  else none
 |some (some n),some (.OU _ o _ cs _)=>if o+n<=cs.length then some (.pure [(d,.val (.agg ((cs.drop o).take n)))]) else none
 |_,_=>none
def I4(C:FB)(U:BJ)(t:TypeId)(x y:Operand):Option Em:=
 match BR C.P t,EZ C.P t,FU C U x,EF C U y with
 |some (n+1),_,some (.ptr p),some v=>some (.store (n+1) p v)
 |some (n+1),some sh,some (.OU s o ver cs ow),some v=>
  if o+(n+1)<=cs.length then
   let BM:=sh.isNone&&KP C U y
   some (.MH s o (n+1) v BM (if BM then C3 U y else none) ver cs ow)
  else none
 |_,_,_,_=>none
def S6(P:Program)(t:TypeId)(neg:Bool)(u:TypeDesc):Option X8:=
 match u with
 | .bool=>some (.beq neg)
 | .struct _=>if P.eqGuardType P.depth t=false then(OV P 20 t).map (.geq neg) else none
 | .pointer e=>if(BR P e).getD 0=0 then none else some (.Ru neg)
 | .slice _=>some (.Ff neg .sl)
 | .func _ _ _=>some (.Ff neg .fn)
 | .map _ _=>some (.Ff neg .mp)
 |_=>none
def PT(P:Program)(op:BinOp)(t:TypeId):Option X8:=
 match P.underlying t with
 |some (.int _)=>some (.int op)
 |some .string=>some (.str op)
 |some u=>match op with
  | .eql=>S6 P t false u
  | .neq=>S6 P t true u
  |_=>none
 |none=>none
def S7(p:X8)(dst:Option Nat):Option (List Aa)->Option Em
 |some args=>some (.op p args dst false none)
 |none=>none
def JE(P:Program)(t:TypeId):List (Nat×Operand)->Option (List (Nat×Nat))
 |[]=>some []
 |(i,_)::rest=>match P.underlying t with
  |some (.struct fs)=>match fs[i]? with
   |some f=>match BR P f.type,JE P t rest with
    |some n,some r=>some ((f.offset,n)::r)
    |_,_=>none
   |none=>none
  |some (.array len e)=>if i<len then match BR P e,JE P t rest with
    |some n,some r=>some ((i*n,n)::r)
    |_,_=>none
   else none
  |_=>none
def LM(P:Program)(t:TypeId):Bool:=
 match P.info? t with
 |some i=>match i.zero with
  |some z=>z.cells.size==i.size
  |none=>false
 |none=>false
def Vf(P:Program)(t:TypeId):Bool:=
 match P.underlying t with
 |some (.struct fs)=>fs.toList.all λf=>(BR P f.type).isSome
 |some (.array _ e)=>(BR P e).isSome
 |_=>false
def S8(o:gx)(dst:Option Nat):Option (List Aa)->Option Em
 |some args=>some (.mem o args dst)
 |none=>none
def QN(C:FB)(fid:FuncId)(U:BJ)(c:Call)(dst:Option Nat):Option Em:=
 match c.callee with
 | .builtin .len=>match c.argTypes[0]? with
  |some t=>match C.P.underlying t with
   |some .string=>S7 (.len true) dst (Bm C U c.args.toList)
   |some (.slice _)=>S7 (.len false) dst (Bm C U c.args.toList)
   |_=>none
  |none=>none
 | .builtin .append=>match c.argTypes[0]?,c.argTypes[1]?,c.args.toList with
  |some t,some t',[s,x]=>match C.P.underlying t,C.P.underlying t' with
   |some (.slice e),some (.slice _)|some (.slice e),some .string=>match BR C.P e,JD C.P e with
    |some (n+1),some (b+1)=>if LM C.P e then match Bm C U [s,x] with
      |some [v,u]=>if KP C U s then
        (if(dst.map (C.zC fid)).getD false then some (.Jk (n+1) (b+1) v u dst (C3 U s))
        else if(dst.map (C.Z5 fid)).getD false then some (.F8 (n+1) (b+1) v u dst (C3 U s))
        else some (.op (.append (n+1) (b+1)) [v,u] dst true (C3 U s)))
       else if(dst.map (C.zC fid)).getD false then some (.FQ (n+1) (b+1) v u dst) else none
      |_=>none
     else none
    |_,_=>none
   |_,_=>none
  |_,_,_=>none
 | .builtin .copy=>match c.argTypes[0]?,c.argTypes[1]?,c.args.toList with
  |some t,some t',[s,x]=>match C.P.underlying t,C.P.underlying t' with
   |some (.slice e),some (.slice _)|some (.slice e),some .string=>match BR C.P e with
    |some (n+1)=>S8 (.copy (n+1)) dst (Bm C U [s,x])
    |_=>none
   |_,_=>none
  |_,_,_=>none
 | .builtin .clear=>match c.argTypes[0]?,c.args.toList with
  |some t,[s]=>match C.P.underlying t with
   |some (.slice e)=>match BR C.P e,GA C.P e with
    |some (n+1),some z=>S8 (.clear (n+1) z.cells) dst (Bm C U [s])
    |_,_=>none
   |_=>none
  |_,_=>none
 | .builtin .max=>if c.args.size=2 then S7 (.Ld true) dst (Bm C U c.args.toList) else none
 | .builtin .min=>if c.args.size=2 then S7 (.Ld false) dst (Bm C U c.args.toList) else none
 | .value (.func f)=>if C.MG f then(match c.args.toList with
  |[s,i,v]=>if KP C U v then S8 .zB dst (Bm C U [s,i,v]) else none
  |_=>none) else if Ec (C.alt fid f)=f then(Bm C U c.args.toList).map λargs=>if C.ĉ (C.alt fid f) then .BG (C.alt fid f) args dst else .call (C.alt fid f) args dst else none
 | .value g=>match EF C U g,Bm C U c.args.toList with
  |some g,some args=>some (.D4 g args dst)
  |_,_=>none
 |_=>none
def VL(C:FB)(src dst:TypeId):Option (Option X8):=
 match C.P.underlying src,C.P.underlying dst with
 |some (.int _),some (.int k)=>some (some (.conv k))
 |some (.int _),some .string=>some (some .i2s)
 |some .string,some .string=>some none
 |some (.slice e),some .string=>match C.P.underlying e with
  |some (.int .u8)=>some (some .Yc)
  |_=>none
 |some .string,some (.slice e)=>match C.P.underlying e,BR C.P e,JD C.P e with
  |some (.int .u8),some 1,some 1=>some (some .s2b)
  |_,_,_=>none
 |_,_=>none
def FV(C:FB)(U:BJ):List Operand->Option (List Aa×List (Nat×List Aa))
 |[]=>some ([],[])
 |x::xs=>match FV C U xs with
  |none=>none
  |some (vs,fz)=>match x,DP C U x with
   | .tmp s,some (.box _ cs _)=>if(fz.map (·.1)).contains s then none else some (.BW cs::vs,(s,cs)::fz)
   |_,some sl=>match sl.GV with
    |some v=>some (v::vs,fz)
    |none=>none
   |_,none=>none
def FW(C:FB)(fid:FuncId)(ops:List Oper)(U:BJ)(o:Oper):Option Em:=
 match o.op with
 | .move x=>match o.dst with
  |some d=>Ki C U x d (h_ ops d)
  |none=>none
 | .assign x=>match o.dst with
  |some d=>Ki C U x d true
  |none=>none
 | .pick c a b=>match DP C U c,o.dst with
  |some (.OL true),some d=>Ki C U a d false
  |some (.OL false),some d=>Ki C U b d false
  |_,dst=>S7 .pick dst (Bm C U [c,a,b])
 | .alloc t=>match o.dst,GA C.P t with
  |some d,some z=>match C.kind fid d with
   | .OU=>if BR C.P t=some z.cells.length/\z.cells≠[] then some (.pure [(d,.box 0 z.cells (VK z.cells))]) else none
   |_=>TZ C fid t z d
  |_,_=>none
 | .box t x=>match o.dst,EF C U x with
  |some d,some v=>TZ C fid t v d
  |_,_=>none
 | .build t parts=>match GA C.P t,JE C.P t parts.toList with
  |some z,some ps=>if Vf C.P t then S7 (.BV z.cells ps) o.dst (Bm C U (parts.toList.map (·.2))) else none
  |_,_=>none
 | .buildSlice t len parts=>match C.P.underlying t with
  |some (.slice e)=>match BR C.P e with
   |some (n+1)=>if parts.toList.map (·.1)=List.range len/\LM C.P e=true then if len=0/\(o.dst.map (C.zC fid)).getD false=true then some (.op (.EC (n+1)) [] o.dst true none) else(Bm C U (parts.toList.map (·.2))).map λargs=> .op (.Cl (n+1)) args o.dst true none else none
   |_=>none
  |_=>none
 | .load t x=>match o.dst with
  |some d=>Lf C U t x d (h_ ops d)
  |none=>none
 | .store t x y=>match o.dst with
  |none=>I4 C U t x y
  |some _=>none
 | .nilCheck x=>match x,DP C U x,o.dst with
  | .tmp s,some (.box _ _ _),some d=>some (.pure [(d,.EW s 0)])
  |_,some (.EW s k),some d=>some (.pure [(d,.EW s k)])
  |x,_,dst=>S7 .LI dst (Bm C U [x])
 | .binOp op t x y _=>match PT C.P op t with
  |some p=>S7 p o.dst (Bm C U [x,y])
  |none=>none
 | .unOp op _ x=>S7 (.un op) o.dst (Bm C U [x])
 | .convert src dst x=>match VL C src dst with
  |some (some .Yc)=>(EF C U x).map λv=> .Yc v o.dst
  |some (some .s2b)=>if(o.dst.map (C.zC fid)).getD false then(EF C U x).map λv=> .EO v o.dst else S7 .s2b o.dst (Bm C U [x])
  |some (some p)=>S7 p o.dst (Bm C U [x])
  |_=>none
 | .makeFunc fn first captured=>match o.dst,Bm C U first.toList,FV C U captured.toList with
  |some d,some a,some (b,fz)=>some (.closure fn a b fz d)
  |_,_,_=>none
 | .makeMap _ none=>some (.MY o.dst)
 | .makeSlice t l c=>match C.P.underlying t with
  |some (.slice e)=>match BR C.P e,JD C.P e,GA C.P e,EF C U l,EF C U c with
   |some (n+1),some (b+1),some z,some l,some c=>some (.make (n+1) (b+1) z.cells l c o.dst)
   |_,_,_,_,_=>none
  |_=>none
 | .insert t m k v| .mapUpdate t m k v=>match C.P.underlying t with
  |some (.map kt _)=>match o.dst,C.P.underlying kt,Bm C U [m,k,v] with
   |none,some .string,some [m,k,v]=>some (.Hu m k v)
   |none,some (.int .i64),some [m,k,v]=>some (.mem .S2 [m,k,v] none)
   |_,_,_=>none
  |_=>none
 | .lookup t m k ok=>match C.P.underlying t with
  |some (.map kt e)=>match C.P.underlying kt,GA C.P e,Bm C U [m,k] with
   |some .string,some z,some [m,k]=>some (.LL z ok m k o.dst)
   |some (.int .i64),some z,some [m,k]=>some (.mem (.zA z ok) [m,k] o.dst)
   |_,_,_=>none
  |_=>none
 | .slice t x (some lo) (some hi) (some mx)=>match C.P.underlying t with
  |some (.slice e)=>match BR C.P e with
   |some (n+1)=>S8 (.lR (n+1)) o.dst (Bm C U [x,lo,hi,mx])
   |_=>none
  |_=>none
 | .makeInterface t x=>match C.P.underlying t with
  |some (.interface _)=>none
  |some _=>S8 (.aEk t) o.dst (Bm C U [x])
  |none=>none
 | .mapEntry t m k=>match C.P.underlying t with
  |some (.map kt e)=>match C.P.underlying kt,GA C.P e with
   |some (.int .i64),some z=>S8 (.NA z) o.dst (Bm C U [m,k])
   |some .string,some z=>S8 (.VE z) o.dst (Bm C U [m,k])
   |_,_=>none
  |_=>none
 | .entryStore _ m s v=>match o.dst with
  |none=>S8 .Kf none (Bm C U [m,s,v])
  |some _=>none
 | .slice t x lo hi none=>match C.P.underlying t with
  |some .string=>S7 (.PQ 0 true lo.isSome hi.isSome) o.dst (Bm C U (x::(lo.toList++hi.toList)))
  |some (.slice e)=>match BR C.P e with
   |some (n+1)=>if(o.dst.map (C.zC fid)).getD false then S8 (.yZ (n+1) lo.isSome hi.isSome) o.dst (Bm C U (x::(lo.toList++hi.toList)))
    else S7 (.PQ (n+1) false lo.isSome hi.isSome) o.dst (Bm C U (x::(lo.toList++hi.toList)))
   |_=>none
  |_=>none
 | .fieldAddr t x f=>match H8 C.P t f,o.dst with
  |some (off,_),some d=>match x,DP C U x with
   | .tmp s,some (.box _ _ _)=>some (.pure [(d,.EW s off)])
   |_,some (.EW s k)=>some (.pure [(d,.EW s (k+off))])
   |x,_=>S7 (.Fg off) (some d) (Bm C U [x])
  |_,_=>none
 | .field t x f=>match H8 C.P t f with
  |some (off,sh)=>S7 (.part off sh) o.dst (Bm C U [x])
  |none=>none
 | .indexAddr t x i=>match C.P.underlying t with
  |some (.slice e)=>match BR C.P e with
   |some (n+1)=>S7 (.FH (n+1)) o.dst (Bm C U [x,i])
   |_=>none
  |some (.array len e)=>match BR C.P e with
   |some (n+1)=>if len<=1 then none else S7 (.TY len (n+1)) o.dst (Bm C U [x,i])
   |_=>none
  |_=>none
 | .index t x i=>match C.P.underlying t with
  |some .string=>S7 .UH o.dst (Bm C U [x,i])
  |some (.array len e)=>match BR C.P e,EZ C.P e with
   |some (n+1),some sh=>S7 (.ō len (n+1) sh) o.dst (Bm C U [x,i])
   |_,_=>none
  |_=>none
 | .extract x i=>S7 (.ext i) o.dst (Bm C U [x])
 | .call c=>QN C fid U c o.dst
 |_=>none
def BJ.DX(U:BJ):List (Nat×D3)->BJ
 |[]=>U
 |(s,x)::ws=>BJ.DX (U.set s x) ws
def BJ.put(U:BJ)(dst:Option Nat)(x:D3):BJ:=
 match dst with
 |some d=>U.set d x
 |none=>U
def BJ.Dt(U:BJ):Option (Nat×Aa)->BJ
 |some (s,v)=>U.set s (.val v)
 |none=>U
def VM(n:Nat)(cs:List Aa):List Aa:=(List.range n).map λi=>cs.getD i .nilIface
def VN(cs:List Aa)(off n:Nat)(vs:List Aa):List Aa:=cs.take off++vs++cs.drop (off+n)
def RC(owned:List Nat)(off n:Nat)(BM:Bool):List Nat:=
 let rest:=owned.filter λo=> !(off<=o&&o<off+n)
 if BM then off::rest else rest
def Em.LN(C:FB)(U:BJ)(K:BJ->IT):Em->IT
 | .pure ws=>K (U.DX ws)
 | .op p args dst BM e=> .op p args λv=>K ((U.Dt e).put dst (if BM then .BM v else .val v))
 | .box n v d=> .cells n v λcs=>K (U.set d (.box 0 (VM n cs) []))
 | .closure fn a b fz d=>K ((U.DX (fz.map λ(s,cs)=>(s,.val (.BW cs)))).set d (.val (.func fn a b)))
 | .MH s off n v BM e ver cells owned=> .cells n v λvs=>K ((U.Dt e).set s (.box (ver+1) (VN cells off n (VM n vs)) (RC owned off n BM)))
 | .load n p dst=> .load n p λv=>K (U.put dst (.val v))
 | .store n p v=> .store n p v (K U)
 | .alloc n v dst=> .alloc n v λp=>K (U.put dst (.val p))
 | .call f args dst=> .call f args λr=>K (U.put dst (if C.I9 f then .BM r else .val r))
 | .D4 g args dst=> .D4 g args λr=>K (U.put dst (.val r))
 | .BG f args dst=> .BG f args λr=>K (U.put dst (.val r))
 | .MY dst=> .MY λm=>K (U.put dst (.val m))
 | .Hu m k v=> .Hu m k v (K U)
 | .LL z ok m k dst=> .LL z ok m k λv=>K (U.put dst (.val v))
 | .make z b zero l c dst=> .make z b zero l c λv=>K (U.put dst (.val v))
 | .Jk z b s x dst e=> .Jk z b s x λv=>K ((U.Dt e).put dst (.val v))
 | .FQ z b s x dst=> .FQ z b s x λv=>K (U.put dst (.val v))
 | .F8 z b s x dst e=> .F8 z b s x λv=>K ((U.Dt e).put dst (.BM v))
 | .EO s dst=> .EO s λv=>K (U.put dst (.val v))
 | .Yc v dst=> .UI v λv=> .op .Yc [v] λu=>K (U.put dst (.val u))
 | .mem o args dst=> .mem o args λv=>K (U.put dst (if o.aEl then .undef else .val v))
def Em.news:Em->List Nat
 | .pure ws=>ws.filterMap λ(s,x)=>match x with| .box 0 _ _=>some s|_=>none
 | .box _ _ d=>[d]
 | .closure _ _ _ fz _=>fz.map (·.1)
 |_=>[]
inductive aEn where
 |M0 (run:Bool)
 |ask (lS:Nat) (v:Aa) (want:Bool)
 |Œ
def Iq(ops:List Oper)(U:BJ)(o:Oper):aEn:=
 match o.guard with
 |none=> .M0 true
 |some (j,want)=>match(ops[j]?).bind (·.dst) with
  |some s=>match U.at s with
   | .OL b=> .M0 (b==want)
   | .val v=> .ask s v want
   | .skip=> .M0 false
   |_=> .Œ
  |none=> .Œ
def ic(C:FB)(fid:FuncId)(ops:List Oper)(U:BJ)(o:Oper)(K:BJ->IT):IT:=
 match FW C fid ops U o with
 |some r=>r.LN C (U.drop r.news) K
 |none=> .fail
def S9(C:FB)(fid:FuncId)(ops:List Oper)(U:BJ)(o:Oper)(K:BJ->IT):IT:=
 match Iq ops U o with
 | .M0 true=>ic C fid ops U o K
 | .M0 false=>K (U.put o.dst .skip)
 | .ask s v want=>
  let t:=if want then ic C fid ops (U.set s (.OL true)) o K else K (BJ.put (U.set s (.OL true)) o.dst .skip)
  let e:=if want then K (BJ.put (U.set s (.OL false)) o.dst .skip) else ic C fid ops (U.set s (.OL false)) o K
  .AH v t e
 | .Œ=> .fail
def Ta:FuncId->Bool
 |87=>true
 |_=>false
def RD(C:FB)(U:BJ)(o:Oper):List (Nat×List Aa):=
 match o.op with
 | .call c=>(match c.callee with
  | .value (.func f)=>if Ta f then(match FV C U c.args.toList with|some (_,fz)=>fz|none=>[]) else[]
  |_=>[])
 |_=>[]
def œ(C:FB)(U:BJ)(o:Oper):BJ:=(U.drop ((RD C U o).map (·.1))).DX ((RD C U o).map λ(s,cs)=>(s,.val (.BW cs)))
def qV(C:FB)(fid:FuncId)(ops:List Oper):List Oper->BJ->(BJ->IT)->IT
 |[],U,K=>K U
 |o::rest,U,K=>S9 C fid ops (œ C U o) o λU=>qV C fid ops rest U K
end Go.Am
end
section
namespace Go.Am
def Oper.UJ(o:Oper):List Nat:=o.after.toList.filterMap λe=>if Region.binds .any e then some e.on else none
def bit(i:Nat):Nat:=2^i
def KQ(DD:List Nat):List Oper->List Nat
 |[]=>DD
 |o::rest=>KQ (DD++[(Oper.UJ o).foldl (λm e=>m|||bit e|||DD.getD e 0) 0]) rest
def VO(ops:List Oper):List Nat:=KQ [] ops
def D5(an:List Nat)(i j:Nat):Bool:=(an.getD j 0).testBit i
def Ċ(o:Oper):Bool:=
 match o.op with
 | .call c=>(match c.callee with| .builtin .copy| .builtin .clear=>true| .builtin _=>false|_=>true)
 | .store _ _ _| .insert _ _ _ _| .mapUpdate _ _ _ _| .makeMap _ _| .makeSlice _ _ _| .mapEntry _ _ _| .entryStore _ _ _ _=>true
 |_=>false
def VP(all:List Oper)(DD:List Nat):List Oper->List Nat
 |[]=>DD
 |o::rest=>VP all (DD++[(Oper.UJ o).foldl (λm e=>Nat.max m (DD.getD e 0+(match all[e]? with|some x=>if Ċ x then 1 else 0|none=>0))) 0]) rest
def xq(ops:List Oper):List Nat:=
 let st:=VP ops [] ops
 let idx:=List.range ops.length
 let Rv:=λi=>match ops[i]? with|some o=>Ċ o|none=>false
 (List.range (ops.length+1)).flatMap λs=>(idx.filter λi=>st.getD i 0==s&& !Rv i)++(idx.filter λi=>st.getD i 0==s&&Rv i)
structure FP where
 rs:List Nat
 wf:List Nat
 hl:Bool
 Rv:Bool
 news:List Nat
 lr:List Nat
 Tb:Bool
 deriving Inhabited
def JF(xs:List Operand):List Nat:=xs.filterMap λ| .tmp t=>some t|_=>none
def NC(C:FB)(U:BJ)(x:Operand):Option Nat:=
 match FU C U x with
 |some (.OU s _ _ _ _)=>some s
 |_=>none
def HG(C:FB)(U:BJ)(o:Oper):List Nat:=
 match o.op with
 | .load _ x=>(NC C U x).toList
 | .store _ x _=>(NC C U x).toList
 | .makeFunc _ _ captured=>JF captured.toList
 |_=>[]
def Em.wf:Em->List Nat
 | .pure ws=>ws.map (·.1)
 | .op _ _ dst _ a=>dst.toList++(a.map (·.1)).toList
 | .box _ _ d=>[d]
 | .closure _ _ _ fz d=>d::fz.map (·.1)
 | .MH s _ _ _ _ a _ _ _=>s::(a.map (·.1)).toList
 | .load _ _ dst| .alloc _ _ dst| .call _ _ dst| .D4 _ _ dst| .BG _ _ dst| .MY dst| .LL _ _ _ _ dst| .make _ _ _ _ _ dst| .EO _ dst| .Yc _ dst| .FQ _ _ _ _ dst| .mem _ _ dst=>dst.toList
 | .Jk _ _ _ _ dst a| .F8 _ _ _ _ dst a=>dst.toList++(a.map (·.1)).toList
 | .store _ _ _| .Hu _ _ _=>[]
def Em.hl:Em->Bool
 | .load _ _ _| .LL _ _ _ _ _=>true
 |_=>false
def Em.Rv:Em->Bool
 | .store _ _ _| .alloc _ _ _| .call _ _ _| .D4 _ _ _| .MY _| .Hu _ _ _| .make _ _ _ _ _ _| .Jk _ _ _ _ _ _| .EO _ _| .Yc _ _| .FQ _ _ _ _ _| .F8 _ _ _ _ _ _| .mem _ _ _=>true
 |_=>false
def Fh(ops:List Oper)(o:Oper):List Nat:=
 match o.guard with
 |none=>[]
 |some (j,_)=>((ops[j]?).bind (·.dst)).toList
def Vg(xs:List D3):List Nat:=xs.filterMap λ| .EW t _=>some t|_=>none
def Em.qW:Em->List Nat
 | .pure ws=>Vg (ws.map (·.2))
 |_=>[]
def Em.Tb(U:BJ)(r:Em):Bool:=
 MI U r.news&&match r with
  | .load _ _ (some d)=>decide (d<U.length)
  | .load _ _ none| .LL _ _ _ _ _| .closure _ _ _ (_::_) _=>false
  |_=>true
def UK(C:FB)(ops:List Oper)(U:BJ)(o:Oper)(r:Option Em):FP:=
 match r with
 |none=>{rs:=Fh ops o,wf:=o.dst.toList,hl:=false,Rv:=false,news:=[],lr:=Vg (o.dst.toList.map U.at),Tb:=true}
 |some r=>{rs:=Fh ops o++JF o.op.operands.toList++HG C U o,wf:=r.wf++o.dst.toList,hl:=r.hl,Rv:=r.Rv,news:=r.news,lr:=Vg ((r.wf++o.dst.toList).map U.at)++r.qW,Tb:=r.Tb U}
def T0(a b:List Nat):Bool:=a.any λx=>b.contains x
def FP.apart(x y:FP):Bool:= !T0 x.wf (y.rs++y.wf)&& !T0 y.wf x.rs&& !T0 x.lr y.news&& !T0 y.lr x.news
def QP(x y:FP):Bool:=x.Tb&&y.Tb&&x.apart y&& !(x.Rv&&y.Rv)&& !(x.Rv&&y.hl)
def VQ(n:Nat)(an:List Nat)(a:List (Nat×FP)):Bool:=
 go a&&(List.range n).all (λi=>(a.map (·.1)).contains i)
where
 go:List (Nat×FP)->Bool
  |[]=>true
  |(i,f)::rest=>rest.all (λ(j,g)=>i != j&& !D5 an j i&&(D5 an i j||QP f g))&&go rest
structure Kb where
 idx:Nat
 n:Option Nat
 p:Aa
 v:Aa
def RE(an:List Nat)(i:Nat):List Kb->IT->IT
 |[],t=>t
 |f::fs,t=>if D5 an f.idx i then RE an i fs t else .load f.n f.p λv=> .same f.v v (RE an i fs t)
def Mo(i:Nat)(r:Em)(U:BJ)(fl:List Kb):List Kb:=
 match r with
 | .load n p (some d)=>match U.at d with
  | .val v=>{idx:=i,n,p,v}::fl
  |_=>fl
 |_=>fl
def RF(ops:List Oper)(i:Nat):Bool:=ops.any λo=>match o.guard with|some (j,_)=>j==i|none=>false
def qX(d:Option Nat)(U:BJ)(K:BJ->IT):IT:=
 match d with
 |none=>K U
 |some d=>match U.at d with
  | .val v=> .AH v (K (U.set d (.OL true))) (K (U.set d (.OL false)))
  |_=>K U
def QQ(C:FB)(fid:FuncId)(ops:List Oper)(an:List Nat):List Nat->List (Nat×FP)->List Kb->BJ->(BJ->IT)->IT
 |[],a,_,U,K=>if VQ ops.length an a.reverse then K U else .fail
 |i::rest,a,fl,U,K=>
  match ops[i]? with
  |none=> .fail
  |some o=>match Iq ops U o with
   | .M0 true=>match FW C fid ops U o with
    |none=> .fail
    |some r=>r.LN C (U.drop r.news) λc=>
     let next:=qX (if RF ops i then o.dst else none) c λb=>QQ C fid ops an rest ((i,UK C ops U o (some r))::a) (Mo i r c fl) b K
     if r.Rv then RE an i fl next else next
   | .M0 false=>QQ C fid ops an rest ((i,UK C ops U o none)::a) fl (U.put o.dst .skip) K
   |_=> .fail
def D6(ops:List Oper)(o:Oper):List Nat:=
 o.dst.toList++match o.op with
  | .move (.tmp s)=>(match o.dst with|some d=>if h_ ops d then[s] else[]|none=>[])
  | .assign (.tmp s)=>[s]
  | .store _ _ (.tmp s)=>[s]
  | .call c=>(match c.callee with| .builtin .append=>JF c.args.toList| .value (.func f)=>if Ta f then JF c.args.toList else[]|_=>[])
  | .makeFunc _ _ captured=>JF captured.toList
  |_=>[]
def CZ:Code->List Nat
 | .region _ ops _=>ops.toList.flatMap (D6 ops.toList)
 | .seq a b=>CZ a++CZ b
 | .cond _ a b=>CZ a++CZ b
 | .block _ b=>CZ b
 | .loop b=>CZ b
 | .scope b=>CZ b
 |_=>[]
def B8:Code->List Nat
 | .region _ ops _=>ops.toList.flatMap (Fh ops.toList)
 | .seq a b=>B8 a++B8 b
 | .cond (.tmp s) a b=>s::(B8 a++B8 b)
 | .cond _ a b=>B8 a++B8 b
 | .block _ b=>B8 b
 | .loop b=>B8 b
 | .scope b=>B8 b
 |_=>[]
def BJ.clear(U:BJ):List Nat->BJ
 |[]=>U
 |s::ss=>BJ.clear (U.set s .undef) ss
def Gm:Code->Option Nat
 | .region id _ _=>some id
 | .seq a b=>(Gm a).orElse λ_=>Gm b
 | .cond _ a b=>(Gm a).orElse λ_=>Gm b
 | .block _ b| .loop b| .scope b=>Gm b
 |_=>none
def VR(U:BJ):List (Nat×Sh)->Option (List Aa)
 |[]=>some []
 |(s,sh)::l=>
  let v:=match sh,U.at s with
   | .val,x=>x.GV
   | .BM,.BM v=>some v
   | .box n ow,.box _ cs Nz=>if cs.length=n/\ow.all (Nz.contains ·) then some (.agg cs) else none
   |_,_=>none
  match v,VR U l with
  |some v,some vs=>some (v::vs)
  |_,_=>none
def YS:D3->Nat
 | .box ver _ _=>ver
 |_=>0
def Ja(vs:List Aa):List (Nat×Sh)->Nat->BJ->(BJ->IT)->IT
 |[],_,U,K=>K U
 |(s,.val)::l,i,U,K=>Ja vs l (i+1) (U.set s (.val (vs.getD i .nilIface))) K
 |(s,.BM)::l,i,U,K=>Ja vs l (i+1) (U.set s (.BM (vs.getD i .nilIface))) K
 |(s,.box n ow)::l,i,U,K=> .cells n (vs.getD i .nilIface) λcs=>Ja vs l (i+1) (U.set s (.box (YS (U.at s)+1) (VM n cs) ow)) K
def lT(U:BJ)(a:BJ)(l:List (Nat×Sh)):Bool:=
 (List.range U.length).all λs=>match U.at s with
  | .box ver _ _=>(l.map (·.1)).contains s||(match a.at s with| .box FX _ _=>FX==ver|_=>false)
  | .EW _ _=>(l.map (·.1)).contains s||(match a.at s with| .EW _ _=>true|_=>false)
  |_=>true
def EI(b:BJ)(l:List (Nat×Sh))(x:FO)(a:BJ):IT:=
 if lT b a l then match VR a l with
  |some vs=> .ret x vs
  |none=> .fail
 else .fail
def ij(l:List (Nat×Sh))(ws:List Nat)(U:BJ):Bool:=l.all λ(s,_)=>ws.contains s||(match U.at s with| .box _ _ _=>true|_=>false)
def Z6(ops:List Oper):Bool:=ops.zipIdx.all λ(o,i)=>(Oper.UJ o).all λe=>decide (e<i)
def RG(C:FB)(fid:FuncId)(ops:List Oper)(draw:Bool)(U:BJ)(K:BJ->IT):IT:=
 if draw then(if Z6 ops then QQ C fid ops (VO ops) (xq ops) [] [] U K else .fail) else qV C fid ops ops U K
def Z7(key:Nat)(U:BJ)(ws:List Nat)(l:List (Nat×Sh))(t:(FO->BJ->IT)->IT)(K:FO->BJ->IT):IT:=
 let b:=U.clear ws
 if ij l ws U then .F9 key (t λx a=>EI b l x a) λx vs=>Ja vs l 0 b λa=>K x a else .fail
def ċ(K:FO->BJ->IT):FO->BJ->IT
 | .normal,_=> .fail
 | .exit i,U=>K (.exit i) U
 | .ret,U=>K .ret U
def FY(C:FB)(fid:FuncId):Code->BJ->(FO->BJ->IT)->IT
 | .skip,U,K=>K .normal U
 | .region id ops draw,U,K=>match C.Ĉ fid id with
  |none=>RG C fid ops.toList draw U (K .normal)
  |some l=>Z7 (200000+id) U (ops.toList.flatMap (D6 ops.toList)++ops.toList.flatMap (Fh ops.toList)) l (λK=>RG C fid ops.toList draw U (K .normal)) K
 | .seq a b,U,K=>FY C fid a U λx d=>match x with
  | .normal=>FY C fid b d K
  | .exit i=>K (.exit i) d
  | .ret=>K .ret d
 | .cond c a b,U,K=>match c,DP C U c with
  |_,some (.OL true)=>FY C fid a U K
  |_,some (.OL false)=>FY C fid b U K
  | .tmp s,some (.val v)=>match C.ć fid s with
   |none=> .AH v (FY C fid a (U.set s (.OL true)) K) (FY C fid b (U.set s (.OL false)) K)
   |some l=>Z7 (100000+s) U (s::(CZ a++CZ b++B8 a++B8 b)) l (λK=> .AH v (FY C fid a (U.set s (.OL true)) K) (FY C fid b (U.set s (.OL false)) K)) K
  |_,_=> .fail
 | .block id b,U,K=>FY C fid b U λx d=>match x with
  | .normal=>K .normal d
  | .exit i=>if i=id then K .normal d else K (.exit i) d
  | .ret=>K .ret d
 | .loop b,U,K=>
  let l:=C.ŏ fid ((Gm b).getD 0)
  let ws:=CZ b++B8 b
  let f:=U.clear ws
  if ij l ws U then match VR U l with
   |none=> .fail
   |some init=> .loop ((Gm b).getD 0) init (λvs=>Ja vs l 0 f λe=>FY C fid b e λx d=>EI f l x d) λx vs=>Ja vs l 0 f λd=>ċ K x d
  else .fail
 | .exit id,U,K=>K (.exit id) U
 | .ret,U,K=>K .ret U
 | .scope b,U,K=>FY C fid b U K
 | .label _,U,K=>K .normal U
 |_,_,_=> .fail
def Gg(C:FB)(U:BJ):List ResultVar->List Aa->(List Aa->IT)->IT
 |[],DD,K=>K DD.reverse
 | .tmp t::rs,DD,K=>match(U.at t).GV with
  |some v=>Gg C U rs (v::DD) K
  |none=> .fail
 | .cell a t::rs,DD,K=>match EZ C.P t,FU C U (.tmp a) with
  |some none,some (.OU _ o _ cs _)=>if o<cs.length then Gg C U rs (cs.getD o .nilIface::DD) K else .fail
  |some (some n),some (.OU _ o _ cs _)=>if o+n<=cs.length then Gg C U rs (.agg ((cs.drop o).take n)::DD) K else .fail
  |some n,some (.ptr p)=> .load n p λv=>Gg C U rs (v::DD) K
  |_,_=> .fail
def PU(U:BJ):List ResultVar->Bool
 |[.tmp t]=>match U.at t with| .BM _=>true|_=>false
 |_=>false
def qY(C:FB)(U:BJ):List (Nat×Nat)->IT->IT
 |[],t=>t
 |(s,off)::l,t=>match(U.at s).GV with
  |some p=> .H6 off p (qY C U l t)
  |none=> .fail
def OW:List Aa->List Aa->(List Aa->IT)->IT
 |[],DD,K=>K DD.reverse
 |v::vs,DD,K=> .UI v λv=>OW vs (v::DD) K
def T1:List Aa->IT
 |[v]=> .ret .ret [v]
 |vs=> .ret .ret [.tuple vs]
def fL(C:FB)(fid:FuncId)(fn:Func)(U:BJ):IT:=
 if C.I9 fid&& !PU U fn.results.toList then .fail
 else qY C U (C.g_ fid) (Gg C U fn.results.toList [] λvs=>if C.gy fid then OW vs [] T1 else T1 vs)
def ir(C:FB)(fid:FuncId)(fn:Func)(args:List Aa):IT:=
 match fn.body with
 |none=> .fail
 |some c=>FY C fid c (args.map .val++List.replicate (fn.ntmps-args.length) .undef) λx U=>match x with
  | .normal=>fL C fid fn U
  | .exit _=> .fail
  | .ret=>fL C fid fn U
def aEo(C:FB)(fid:FuncId)(args:List Aa):IT:=
 match C.P.funcs[Ec fid]? with
 |some fn=>if fn.name== "runtime.NumGoroutine" then .fail else ir C fid fn args
 |none=> .fail
def B7(C:FB)(fid:FuncId)(args:List Aa):IT:=
 match C.Ő fid with
 |some p=>p args
 |none=>aEo C fid args
abbrev g(l:List Aa)(i:Nat):Aa:=l.getD i .nilIface
abbrev I(n:Int):Aa:= .int .i64 n
abbrev S(s:Ak):Aa:= .str s
abbrev tt:Aa:= .bool true
abbrev ff:Aa:= .bool false
abbrev FB.run(C:FB):Nat->IT->Ah->Option Jy:=IT.run (B7 C)
end Go.Am
end
end
section
namespace Go.Am
def IT.Jl{fn:FuncId->List Aa->IT}{rec aEp:IT->Ah->Option Jy}(hr:∀t h r,rec t h=some r->aEp t h=some r):
  ∀(t:IT) (h:Ah) (r:Jy),IT.step fn rec t h=some r->IT.step fn aEp t h=some r:=by
 intro t;induction t with
 |ret x vs=>intro h r d;simpa[IT.step] using d
 |fail=>intro h r d;simp[IT.step] at d
 |op o args k ih=>
  intro h r d;simp only[IT.step] at d⊢;split at d;.exact ih _ _ _ d
  .cases d
 |cells n v k ih=>
  intro h r d;simp only[IT.step] at d⊢;split at d;.rename_i hc;rw[Af hc];exact ih _ _ _ d
  .cases d
 |AH c t e i q=>
  intro h r d;simp only[IT.step] at d⊢;split at d;.exact i _ _ d
  .exact q _ _ d
  .cases d
 |load n p k ih=>
  intro h r d;simp only[IT.step] at d⊢;split at d;.exact ih _ _ _ d
  .cases d
 |store n p v k ih=>
  intro h r d;simp only[IT.step] at d⊢;split at d;.exact ih _ _ d
  .cases d
 |alloc n v k ih=>
  intro h r d;simp only[IT.step] at d⊢;split at d;.exact ih _ _ _ d
  .cases d
 |call f args k ih=>
  intro h r d;simp only[IT.step] at d⊢;split at d;.rename_i h1;rw[hr _ _ _ h1];exact ih _ _ _ d
  .cases d
 |D4 g args k ih=>
  intro h r d;simp only[IT.step] at d⊢;split at d
  .rename_i f a ht;split at d;.rename_i h1;simp only[hr _ _ _ h1];exact ih _ _ _ d
   .cases d
  .cases d
 |BG f args k ih=>
  intro h r d;simp only[IT.step] at d⊢;split at d
  .rename_i Im;rw[Af Im];split at d
   .rename_i h1;rw[hr _ _ _ h1];split at d;.rename_i fk;simp only[fk,BD];exact ih _ _ _ d
    .cases d
   .cases d
  .cases d
 |loop key init body k l j=>
  intro h r d;simp only[IT.step] at d⊢;split at d;.rename_i h1;rw[l _ _ _ h1];exact hr _ _ _ d
  .rename_i x vs h1 hne hx;rw[l _ _ _ hx];cases x<;>first|exact j _ _ _ _ d|exact absurd rfl hne
  .cases d
 |F9 key t k i j=>
  intro h r d;simp only[IT.step] at d⊢;split at d;.rename_i h1;rw[i _ _ h1];exact j _ _ _ _ d
  .cases d
 |same a b k ih=>
  intro h r d;simp only[IT.step] at d⊢;split at d;.rename_i hc;rw[Af hc];exact ih _ _ d
  .cases d
 |MY k ih=>intro h r d;simp only[IT.step] at d⊢;exact ih _ _ _ d
 |Hu m key v k ih=>
  intro h r d;simp only[IT.step] at d⊢;split at d;.exact ih _ _ d
  .cases d
 |LL z ok m key k ih=>
  intro h r d;simp only[IT.step] at d⊢;split at d;.exact ih _ _ _ d
  .cases d
 |make size bytes zero len cap k ih=>
  intro h r d;simp only[IT.step] at d⊢;split at d;.exact ih _ _ _ d
  .cases d
 |Jk size bytes s x k ih=>
  intro h r d;simp only[IT.step] at d⊢;split at d;.exact ih _ _ _ d
  .cases d
 |EO s k ih=>
  intro h r d;simp only[IT.step] at d⊢;split at d;.exact ih _ _ _ d
  .cases d
 |UI v k ih=>
  intro h r d;simp only[IT.step] at d⊢;split at d;.exact ih _ _ _ d
  .cases d
 |H6 off p k ih=>
  intro h r d;simp only[IT.step] at d⊢;split at d;.exact ih _ _ d
  .cases d
 |FQ size bytes s x k ih=>
  intro h r d;simp only[IT.step] at d⊢;split at d;.exact ih _ _ _ d
  .cases d
 |F8 size bytes s x k ih=>
  intro h r d;simp only[IT.step] at d⊢;split at d;.exact ih _ _ _ d
  .cases d
 |mem o args k ih=>
  intro h r d;simp only[IT.step] at d⊢;split at d;.exact ih _ _ _ d
  .cases d
 |qR f args k ih=>
  intro h r d;simp only[IT.step] at d⊢;split at d
  .rename_i h1;rw[hr _ _ _ h1];split at d;.rename_i fk;simp only[fk,BD];exact ih _ _ _ d
   .cases d
  .cases d
def IT.iu{fn:FuncId->List Aa->IT}:∀(n:Nat) (t:IT) (h:Ah) (r:Jy),IT.run fn n t h=some r->IT.run fn (n+1) t h=some r:=by
 intro n;induction n with
 |zero=>intro t h r a;simp[IT.run] at a
 |succ n ih=>intro t h r a;exact IT.Jl (λt h r=>ih t h r) t h r a
def IT.HK{fn:FuncId->List Aa->IT}{n m:Nat}(hnm:n<=m){t:IT}{h:Ah}{r:Jy}(a:IT.run fn n t h=some r):IT.run fn m t h=some r:=by
 induction hnm with
 |refl=>exact a
 |step _ ih=>exact IT.iu _ _ _ _ ih
abbrev Kj:=FO->List Aa->Ah->Prop
def W(C:FB)(t:IT)(Q:Kj)(h:Ah):Prop:=∃n x vs h',C.run n t h=some (x,vs,h')/\Q x vs h'
section
variable{C:FB}{Q:Kj}{h:Ah}
def W.mono{t:IT}{Q':Kj}(hw:W C t Q h)(hq:∀x vs h',Q x vs h'->Q' x vs h'):W C t Q' h:=
 let⟨n,x,vs,h',hr,q⟩:=hw;⟨n,x,vs,h',hr,hq _ _ _ q⟩
def Č{x:FO}{vs:List Aa}(hq:Q x vs h):W C (.ret x vs) Q h:=⟨1,x,vs,h,rfl,hq⟩
def CQ{t:IT}(a:∃n x vs h',IT.step (B7 C) (C.run n) t h=some (x,vs,h')/\Q x vs h'):W C t Q h:=
 let⟨n,x,vs,h',hr,q⟩:=a;⟨n+1,x,vs,h',hr,q⟩
def W.succ{t:IT}(a:W C t Q h):∃n x vs h',IT.step (B7 C) (C.run n) t h=some (x,vs,h')/\Q x vs h':=by
 obtain⟨n,x,vs,h',hr,q⟩:=a;cases n with
 |zero=>simp[FB.run,IT.run] at hr
 |succ n=>exact⟨n,x,vs,h',hr,q⟩
def aEq{o:X8}{args:List Aa}{k:Aa->IT}{v:Aa}(hv:Ay o args=some v)(hw:W C (k v) Q h):W C (.op o args k) Q h:=by obtain⟨n,x,vs,h',hr,q⟩:=hw.succ;exact CQ ⟨n,x,vs,h',by simp only[IT.step,hv];exact hr,q⟩
def qZ{n:Nat}{v:Aa}{k:List Aa->IT}(hv:v.cells.length=n)(hw:W C (k v.cells) Q h):W C (.cells n v k) Q h:=by obtain⟨m,x,vs,h',hr,q⟩:=hw.succ;exact CQ ⟨m,x,vs,h',by simp only[IT.step,hv,BD];exact hr,q⟩
def rA{b:Bool}{t e:IT}(ht:b=true->W C t Q h)(he:b=false->W C e Q h):W C (.AH (.bool b) t e) Q h:=by
 cases b with
 |true=>obtain⟨m,x,vs,h',hr,q⟩:=(ht rfl).succ;exact CQ ⟨m,x,vs,h',by simp only[IT.step];exact hr,q⟩
 |false=>obtain⟨m,x,vs,h',hr,q⟩:=(he rfl).succ;exact CQ ⟨m,x,vs,h',by simp only[IT.step];exact hr,q⟩
def iv{n:Option Nat}{p v:Aa}{k:Aa->IT}(hv:Bi h n p=some v)(hw:W C (k v) Q h):W C (.load n p k) Q h:=by obtain⟨m,x,vs,h',hr,q⟩:=hw.succ;exact CQ ⟨m,x,vs,h',by simp only[IT.step,hv];exact hr,q⟩
def rB{n:Nat}{p v:Aa}{k:IT}{h1:Ah}(hv:CH h n p v=some h1)(hw:W C k Q h1):W C (.store n p v k) Q h:=by obtain⟨m,x,vs,h',hr,q⟩:=hw.succ;exact CQ ⟨m,x,vs,h',by simp only[IT.step,hv];exact hr,q⟩
def rC{n:Nat}{v:Aa}{k:Aa->IT}(hv:v.cells.length=n)(hw:W C (k (.ptr (some (h.length,0)))) Q (h++[.cells v.cells])):W C (.alloc n v k) Q h:=by obtain⟨m,x,vs,h',hr,q⟩:=hw.succ;exact CQ ⟨m,x,vs,h',by simp only[IT.step,VG,hv,BD];exact hr,q⟩
def iw{a b:Aa}{k:IT}(hv:Aa.beq a b=true)(hw:W C k Q h):W C (.same a b k) Q h:=by obtain⟨m,x,vs,h',hr,q⟩:=hw.succ;exact CQ ⟨m,x,vs,h',by simp only[IT.step,hv,BD];exact hr,q⟩
def ix{k:Aa->IT}(hw:W C (k (.map (some h.length))) Q (h++[.map []])):W C (.MY k) Q h:=by obtain⟨m,x,vs,h',hr,q⟩:=hw.succ;exact CQ ⟨m,x,vs,h',by simp only[IT.step];exact hr,q⟩
def iy{m key v:Aa}{k:IT}{h1:Ah}(hv:Qs h m key v=some h1)(hw:W C k Q h1):W C (.Hu m key v k) Q h:=by obtain⟨n,x,vs,h',hr,q⟩:=hw.succ;exact CQ ⟨n,x,vs,h',by simp only[IT.step,hv];exact hr,q⟩
def iz{z:Aa}{ok:Bool}{m key v:Aa}{k:Aa->IT}(hv:Oo h z ok m key=some v)(hw:W C (k v) Q h):W C (.LL z ok m key k) Q h:=by obtain⟨n,x,vs,h',hr,q⟩:=hw.succ;exact CQ ⟨n,x,vs,h',by simp only[IT.step,hv];exact hr,q⟩
def lU{size bytes:Nat}{zero:List Aa}{len cap v:Aa}{k:Aa->IT}{h1:Ah}(hv:Rz h size bytes zero len cap=some (h1,v))(hw:W C (k v) Q h1):W C (.make size bytes zero len cap k) Q h:=by obtain⟨n,x,vs,h',hr,q⟩:=hw.succ;exact CQ ⟨n,x,vs,h',by simp only[IT.step,hv];exact hr,q⟩
def rD{size bytes:Nat}{s x v:Aa}{k:Aa->IT}{h1:Ah}(hv:Kg h size bytes s x=some (h1,v))(hw:W C (k v) Q h1):W C (.Jk size bytes s x k) Q h:=by obtain⟨n,x,vs,h',hr,q⟩:=hw.succ;exact CQ ⟨n,x,vs,h',by simp only[IT.step,hv];exact hr,q⟩
def VS{s v:Aa}{k:Aa->IT}{h1:Ah}(hv:Ip h s=some (h1,v))(hw:W C (k v) Q h1):W C (.EO s k) Q h:=by obtain⟨n,x,vs,h',hr,q⟩:=hw.succ;exact CQ ⟨n,x,vs,h',by simp only[IT.step,hv];exact hr,q⟩
def č{u v:Aa}{k:Aa->IT}{h1:Ah}(hv:KO h u=some (h1,v))(hw:W C (k v) Q h1):W C (.UI u k) Q h:=by obtain⟨n,x,vs,h',hr,q⟩:=hw.succ;exact CQ ⟨n,x,vs,h',by simp only[IT.step,hv];exact hr,q⟩
def rE{off:Nat}{p:Aa}{k:IT}{h1:Ah}(hv:Kh h off p=some h1)(hw:W C k Q h1):W C (.H6 off p k) Q h:=by obtain⟨n,x,vs,h',hr,q⟩:=hw.succ;exact CQ ⟨n,x,vs,h',by simp only[IT.step,hv];exact hr,q⟩
def i_{size bytes:Nat}{s x v:Aa}{k:Aa->IT}{h1:Ah}(hv:FT h size bytes s x=some (h1,v))(hw:W C (k v) Q h1):W C (.FQ size bytes s x k) Q h:=by obtain⟨n,x,vs,h',hr,q⟩:=hw.succ;exact CQ ⟨n,x,vs,h',by simp only[IT.step,hv];exact hr,q⟩
def YT{size bytes:Nat}{s x v:Aa}{k:Aa->IT}(hv:Qt h size bytes s x=some v)(hw:W C (k v) Q h):W C (.F8 size bytes s x k) Q h:=by obtain⟨n,x,vs,h',hr,q⟩:=hw.succ;exact CQ ⟨n,x,vs,h',by simp only[IT.step,hv];exact hr,q⟩
def Ď{o:gx}{args:List Aa}{v:Aa}{k:Aa->IT}{h1:Ah}(hv:DC o h args=some (h1,v))(hw:W C (k v) Q h1):W C (.mem o args k) Q h:=by obtain⟨n,x,vs,h',hr,q⟩:=hw.succ;exact CQ ⟨n,x,vs,h',by simp only[IT.step,hv];exact hr,q⟩
def Ev(C:FB)(f:FuncId)(args:List Aa)(h:Ah)(R:Aa->Ah->Prop):Prop:=
 W C (B7 C f args) (λx vs h'=>x= .ret/\∃r,vs=[r]/\R r h') h
def Ev.mono{f:FuncId}{args:List Aa}{R R':Aa->Ah->Prop}(hw:Ev C f args h R)(hr:∀r h',R r h'->R' r h'):Ev C f args h R':=
 W.mono hw λ_ _ _ ⟨hx,r,hv,hR⟩=>⟨hx,r,hv,hr _ _ hR⟩
def ja{f:FuncId}{args:List Aa}{k:Aa->IT}(hc:Ev C f args h λr h1=>W C (k r) Q h1):W C (.call f args k) Q h:=by obtain⟨n,x,vs,h1,hr,hx,r,hv,m,x',Hv,h',Hd,q⟩:=hc;subst hx;subst hv;refine CQ ⟨max n m,x',Hv,h',?_,q⟩;have ď:=IT.HK (Hr n m) hr;have h2:=IT.HK (Bp (GP n m) (Fm _)) Hd;simp only[IT.step];simp only[FB.run] at*;rw[ď];exact h2
def xr{f:FuncId}{args:List Aa}{k:Aa->IT}(ha:args.all Aa.Mf=true)(hc:Ev C f args [] λr _=>r.Mf=true/\W C (k r) Q h):W C (.BG f args k) Q h:=by obtain⟨n,x,vs,h1,hr,hx,r,hv,Im,m,x',Hv,h',Hd,q⟩:=hc;subst hx;subst hv;refine CQ ⟨max n m,x',Hv,h',?_,q⟩;have ď:=IT.HK (Hr n m) hr;have h2:=IT.HK (Bp (GP n m) (Fm _)) Hd;simp only[IT.step,ha,BD];simp only[FB.run] at*;rw[ď];simp only[Im,BD];exact h2
def jb{key:Nat}{t:IT}{k:FO->List Aa->IT}(hw:W C t (λx vs h1=>W C (k x vs) Q h1) h):W C (.F9 key t k) Q h:=by obtain⟨n,x,vs,h1,hr,a⟩:=hw.succ;obtain⟨m,x',Hv,h',Hd,q⟩:=a.succ;refine CQ ⟨max n m,x',Hv,h',?_,q⟩;have c:=IT.Jl (λt h r=>IT.HK (fn:=B7 C) (Hr n m)) _ _ _ hr;have b:=IT.Jl (λt h r=>IT.HK (fn:=B7 C) (GP n m)) _ _ _ Hd;simp only[IT.step];simp only[FB.run] at*;rw[c];exact b
end
end Go.Am
end
