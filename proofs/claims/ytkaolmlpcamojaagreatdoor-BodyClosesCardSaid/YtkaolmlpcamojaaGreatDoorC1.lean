/- Lemmas -/
import GoSem.Step
set_option linter.all false
def Ad:=@if_neg
def Af:=@if_pos
def Ag:=@Nat.le_refl
def Aj:=@List.getElem?_append_left
def Ak:=@List.getElem?_eq_some_iff
def Al:=@List.getElem?_eq_getElem
def An:=@List.length_map
def Ao:=@List.getElem?_set_ne
def Ap:=@decide_eq_false
def Aq:=@false_implies
def As:=@decide_eq_true
def Au:=@List.length_append
def Av:=@true_implies
def Aw:=@List.length_take
def Ax:=@List.mem_append
def Az:=@not_false_eq_true
def AA:=@not_true_eq_false
def AB:=@List.take_succ_eq_append_getElem
def AF:=@List.take_of_length_le
def AG:=@List.drop_eq_getElem_cons
def AI:=@List.append_assoc
def AJ:=@List.getD_eq_getElem?_getD
def AL:=@List.getElem_mem
def AO:=@List.getElem?_set_self
def AP:=@Nat.lt_or_ge
def AQ:=@eq_true
def AS:=@List.mem_cons
def AV:=@Nat.zero_le
def AW:=@List.drop_of_length_le
def AY:=@Int.toNat_natCast
def A4:=@List.Sublist.refl
def A7:=@Array.getElem?_eq_some_iff
def A9:=@List.length_cons
def Bd:=@List.length_drop
def Be:=@List.length_singleton
def Bk:=@List.mem_map
def Bl:=@List.map_cons
def Bm:=@List.getElem?_append_right
def Bp:=@List.mem_of_mem_take
def Bq:=@List.length_set
def Bs:=@Nat.le_trans
def Bv:=@Nat.add_zero
def Bw:=@List.mem_of_mem_drop
def Bx:=@List.take_length
def By:=@List.append_nil
def BB:=@Option.some.injEq
def BC:=@Bool.and_eq_true
def BF:=@List.map_append
def BG:=@List.mem_singleton
def BH:=@Nat.add_mul
def BJ:=@List.length_nil
def BN:=@if_true
def BO:=@List.set_append_right
def BR:=@List.nil_append
def BU:=@List.mem_append_right
def BV:=@Nat.zero_add
def BW:=@ne_eq
def BZ:=@List.set_eq_take_append_cons_drop
def B0:=@Option.map_some
def B3:=@List.nodup_append
def B5:=@List.nodup_cons
def B8:=@List.size_toArray
def Ca:=@congrArg
def Cd:=@Nat.zero_lt_one
def Ch:=@Array.length_toList
def Ci:=@List.getElem?_take
def Cj:=@Bool.false_eq_true
def Ck:=@List.mem_filterMap
def Cm:=@List.getElem?_map
def Cs:=@Nat.min_eq_left
def Ct:=@List.getElem?_drop
def Cw:=@Option.bind_some
def Cy:=@eq_self
def CC:=@List.cons_append
def CD:=@List.mem_of_getElem?
def CE:=@List.mem_append_left
def CG:=@List.take_append_drop
def CL:=@List.take_append_of_le_length
def CU:=@List.getElem?_of_mem
def CX:=@Array.getElem?_eq_getElem
def CZ:=@List.flatten_cons
def C0:=@decide_eq_true_eq
def C1:=@List.getElem_map
def C3:=@List.getElem?_take_of_lt
def Db:=@List.all_eq_true
def Dc:=@Nat.succ_pos
def Dd:=@decide_eq_decide
def De:=@Nat.sub_self
def Df:=@List.take_sublist
def Dg:=@List.mem_or_eq_of_mem_set
def Dn:=@List.map_nil
def Dr:=@Nat.lt_irrefl
def Dy:=@List.eq_nil_of_length_eq_zero
def Dz:=@decide_true
def DG:=@Ne.symm
def DH:=@decide_false
def DN:=@List.mem_filter
def DQ:=@if_false
def DY:=@Nat.mul_le_mul_right
def DZ:=@List.filter_append
def D5:=@Option.some.inj
def D7:=@Nat.one_mul
def Ec:=@List.getElem?_eq_none
def Ee:=@List.reverse_cons
def Ek:=@List.drop_drop
def Eo:=@List.map_set
def Ep:=@List.drop_length
def EH:=@List.length_pos_iff
def EI:=@List.findIdx?_eq_some_iff_findIdx_eq
def EL:=@List.filterMap_append
def E2:=@List.cons.injEq
def E8:=@Nat.add_sub_cancel
def Ff:=@Nat.le_succ
def Fg:=@Option.getD_some
def Fh:=@List.reverse_reverse
def FA:=@List.take_take
def FB:=@List.take_left
def FE:=@Nat.mul_one
def FF:=@List.find?_cons
def FV:=@List.length_replicate
def F8:=@Array.eq_empty_of_size_eq_zero
def F9:=@Nat.le_add_right
def Gk:=@List.map_take
def Gl:=@List.getElem_append_left
def GB:=@Int.le_refl
def GW:=@Array.toList_append
def GX:=@Int.toNat_of_nonneg
def Hk:=@Array.getD_eq_getD_getElem?
def Hl:=@Bool.false_or
def Hn:=@Nat.le_max_right
def Ho:=@List.filter_cons
def HE:=@Array.ext'
def HV:=@List.extract_eq_take_drop
def HW:=@Nat.le_max_left
def HX:=@List.take_left'
def Ib:=@bne_self_eq_false
def Ir:=@Prod.mk.injEq
def Iz:=@List.reverse_append
def IA:=@List.filterMap_cons
def IQ:=@Nat.le_mul_of_pos_right
def IS:=@List.getElem?_cons_zero
def IU:=@Bool.not_false
def IV:=@Int.eq_ofNat_of_zero_le
def Jk:=@List.drop_append_of_le_length
def Jp:=@Nat.lt_of_lt_of_le
def Jq:=@Nat.eq_zero_or_pos
def Jr:=@List.reverse_singleton
def Js:=@List.find?_eq_none
def Jt:=@Int.not_lt
def JC:=@List.drop_left'
def JF:=@Bool.or_false
def JG:=@List.map_drop
def JQ:=@List.singleton_append
def JR:=@List.set_getElem_self
def J8:=@Array.size_append
def J9:=@of_decide_eq_true
def Ku:=@List.take_zero
def Kv:=@Array.replicate_succ
def Kw:=@Array.replicate_zero
def KF:=@List.not_mem_nil
def KJ:=@List.getLast?_eq_getElem?
def KV:=@List.toList_toArray
def KW:=@List.flatten_append
def KX:=@List.replicate_succ
def KY:=@List.append_toArray
def KZ:=@List.length_reverse
def LU:=@List.getElem?_cons_succ
def LV:=@List.length_eq_zero_iff
def MH:=@List.drop_zero
def MI:=@Nat.le_of_eq
def MJ:=@Nat.zero_mul
def MK:=@List.flatMap_cons
def ML:=@and_true
def MM:=@List.nodup_nil
def MN:=@not_or
def MO:=@true_and
def MP:=@Option.map_eq_some_iff
def MQ:=@List.push_toArray
def MR:=@Nat.le_of_lt
def Ng:=@Array.getElem?_modify
def Nh:=@Nat.eq_of_beq_eq_true
def Nt:=@Array.toList_map
def Nu:=@Nat.lt_succ_self
def Nx:=@List.any_cons
def Oa:=@Array.toList_extract
def OT:=@Bool.or_eq_true
def OU:=@Bool.eq_iff_iff
def O5:=@List.take_set_of_le
def O6:=@List.drop_take_self
def O7:=@List.mem_map_of_mem
def Ph:=@Nat.add_comm
def Pj:=@Nat.ne_of_lt
def Qe:=@Array.ext_getElem?
def Qf:=@List.set_cons_zero
def Qg:=@Int.fdiv_eq_ediv_of_nonneg
def Q0:=@Option.filter_eq_some_iff
def Q1:=@List.mem_of_find?_eq_some
def Ro:=@List.ext_getElem?
def Rp:=@List.find?_append
def R2:=@Bool.not_true
def R4:=@Nat.add_assoc
def R5:=@Bool.bne_true
def TA:=@decide_eq_false_iff_not
def TB:=@List.drop_append
def TC:=@List.reverse_nil
def TD:=@Option.bind_eq_some_iff
def TE:=@Nat.add_sub_cancel_left
def TF:=@List.any_eq_true
def TG:=@List.map_reverse
def Uy:=@List.sublist_cons_self
def Uz:=@Bool.true_or
def UA:=@List.any_nil
def Vr:=@List.find?_some
def Vs:=@List.any_append
def Vt:=@UInt8.toNat_inj
def V4:=@List.length_filter_le
def Zf:=@List.mem_cons_of_mem
def Zn:=@false_and
def ZT:=@List.take_succ_cons
def ZU:=@List.drop_set_of_lt
def ZV:=@Array.getElem?_push
def ZW:=@List.map_congr_left
def ZX:=@List.filter_eq_self
def cF:=@List.all_cons
def lI:=@Option.isSome_some
def qM:=@and_self
def qN:=@dif_pos
def qO:=@or_false
def qP:=@List.getLast?_nil
def qZ:=@Array.getElem?_setIfInBounds_ne
def rA:=@List.takeWhile_append_dropWhile
def wM:=@List.zipIdx_cons
def wN:=@List.take_append
def wO:=@List.mem_flatMap
def wQ:=@Option.getD_none
def wR:=@Nat.max_eq_right
def my:=@List.foldl_cons
def oa:=@eq_comm
def zt:=@beq_iff_eq
def zu:=@Bool.and_false
def zw:=@Bool.bne_false
def zx:=@Bool.false_and
def K_:=@List.getElem_append_right
def aAa:=@List.take_add
def aAb:=@List.eq_of_mem_replicate
def aAc:=@List.drop_nil
def aAd:=@List.take_nil
def aAe:=@Int.lt_irrefl
def aAf:=@Int.ofNat.inj
def aBy:=@and_false
def aBz:=@List.filter_cons_of_pos
def aEE:=@List.length_eq_one_iff
def aEF:=@Iff.rfl
def aEG:=@Bool.or_true
def aEH:=@List.set_set
def aEI:=@List.getElem_cons_zero
def aFl:=@List.contains_iff_mem
def aFm:=@Array.getElem?_toList
def aFn:=@List.dropLast_eq_take
def aFo:=@List.getElem_set_self
def aJG:=@List.getElem?_append
def aJH:=@List.range_eq_range'
def aJI:=@List.pairwise_append
def aJJ:=@List.mem_of_getLast?
def aKw:=@Nat.add_sub_cancel'
def aKx:=@Array.toList_zipIdx
def aKy:=@List.getD_cons_zero
def aKz:=@List.getD_cons_succ
def aKA:=@List.takeWhile_cons
def aKB:=@List.dropWhile_cons
def aOE:=@List.zip_cons_cons
def aOF:=@Array.foldl_toList
def aOG:=@List.pairwise_cons
def aOH:=@Option.isSome_none
def aOI:=@List.findIdx?_cons
def aOJ:=@Option.toList_some
def aOK:=@List.map_singleton
def aOL:=@List.set_cons_succ
def aP4:=@Bool.not_eq_true'
def aP5:=@List.getElem?_set
def aP6:=@List.pairwise_map
def aP8:=@List.any_eq_false
def aP9:=@List.drop_sublist
def aQb:=@List.getElem_take
abbrev aUa:List UInt8:=[97,116,116,114,105,98,117,116,101,78,97,109,101,32,97,116,116,114,105,98,117,116,101,84,121,112,101,32,98,97,115,101,70,114,101,113,117,101,110,99,121,32,98,97,115,101,80,114,111,102,105,108,101,32,99,97,108,99,77,111,100,101,32,99,108,105,112,80,97,116,104,85,110,105,116,115,32,100,105,102,102,117,115,101,67,111,110,115,116,97,110,116,32,101,100,103,101,77,111,100,101,32,102,105,108,116,101,114,85,110,105,116,115,32,103,108,121,112,104,82,101,102,32,103,114,97,100,105,101,110,116,84,114,97,110,115,102,111,114,109,32,103,114,97,100,105,101,110,116,85,110,105,116,115,32,107,101,114,110,101,108,77,97,116,114,105,120,32,107,101,114,110,101,108,85,110,105,116,76,101,110,103,116,104,32,107,101,121,80,111,105,110,116,115,32,107,101,121,83,112,108,105,110,101,115,32,107,101,121,84,105,109,101,115,32,108,101,110,103,116,104,65,100,106,117,115,116,32,108,105,109,105,116,105,110,103,67,111,110,101,65,110,103,108,101,32,109,97,114,107,101,114,72,101,105,103,104,116,32,109,97,114,107,101,114,85,110,105,116,115,32,109,97,114,107,101,114,87,105,100,116,104,32,109,97,115,107,67,111,110,116,101,110,116,85,110,105,116,115,32,109,97,115,107,85,110,105,116,115,32,110,117,109,79,99,116,97,118,101,115,32,112,97,116,104,76,101,110,103,116,104,32,112,97,116,116,101,114,110,67,111,110,116,101,110,116,85,110,105,116,115,32,112,97,116,116,101,114,110,84,114,97,110,115,102,111,114,109,32,112,97,116,116,101,114,110,85,110,105,116,115,32,112,111,105,110,116,115,65,116,88,32,112,111,105,110,116,115,65,116,89,32,112,111,105,110,116,115,65,116,90,32,112,114,101,115,101,114,118,101,65,108,112,104,97,32,112,114,101,115,101,114,118,101,65,115,112,101,99,116,82,97,116,105,111,32,112,114,105,109,105,116,105,118,101,85,110,105,116,115,32,114,101,102,88,32,114,101,102,89,32,114,101,112,101,97,116,67,111,117,110,116,32,114,101,112,101,97,116,68,117,114,32,114,101,113,117,105,114,101,100,69,120,116,101,110,115,105,111,110,115,32,114,101,113,117,105,114,101,100,70,101,97,116,117,114,101,115,32,115,112,101,99,117,108,97,114,67,111,110,115,116,97,110,116,32,115,112,101,99,117,108,97,114,69,120,112,111,110,101,110,116,32,115,112,114,101,97,100,77,101,116,104,111,100,32,115,116,97,114,116,79,102,102,115,101,116,32,115,116,100,68,101,118,105,97,116,105,111,110,32,115,116,105,116,99,104,84,105,108,101,115,32,115,117,114,102,97,99,101,83,99,97,108,101,32,115,121,115,116,101,109,76,97,110,103,117,97,103,101,32,116,97,98,108,101,86,97,108,117,101,115,32,116,97,114,103,101,116,88,32,116,97,114,103,101,116,89,32,116,101,120,116,76,101,110,103,116,104,32,118,105,101,119,66,111,120,32,118,105,101,119,84,97,114,103,101,116,32,120,67,104,97,110,110,101,108,83,101,108,101,99,116,111,114,32,121,67,104,97,110,110,101,108,83,101,108,101,99,116,111,114,32,122,111,111,109,65,110,100,80,97,110]
abbrev aUb:List UInt8:=[97,100,100,114,101,115,115,32,97,112,112,108,101,116,32,97,114,101,97,32,97,114,116,105,99,108,101,32,97,115,105,100,101,32,98,97,115,101,32,98,97,115,101,102,111,110,116,32,98,103,115,111,117,110,100,32,98,108,111,99,107,113,117,111,116,101,32,98,111,100,121,32,98,114,32,98,117,116,116,111,110,32,99,97,112,116,105,111,110,32,99,101,110,116,101,114,32,99,111,108,32,99,111,108,103,114,111,117,112,32,100,100,32,100,101,116,97,105,108,115,32,100,105,114,32,100,105,118,32,100,108,32,100,116,32,101,109,98,101,100,32,102,105,101,108,100,115,101,116,32,102,105,103,99,97,112,116,105,111,110,32,102,105,103,117,114,101,32,102,111,111,116,101,114,32,102,111,114,109,32,102,114,97,109,101,32,102,114,97,109,101,115,101,116,32,104,49,32,104,50,32,104,51,32,104,52,32,104,53,32,104,54,32,104,101,97,100,32,104,101,97,100,101,114,32,104,103,114,111,117,112,32,104,114,32,104,116,109,108,32,105,102,114,97,109,101,32,105,109,103,32,105,110,112,117,116,32,107,101,121,103,101,110,32,108,105,32,108,105,110,107,32,108,105,115,116,105,110,103,32,109,97,105,110,32,109,97,114,113,117,101,101,32,109,101,110,117,32,109,101,116,97,32,110,97,118,32,110,111,101,109,98,101,100,32,110,111,102,114,97,109,101,115,32,110,111,115,99,114,105,112,116,32,111,98,106,101,99,116,32,111,108,32,112,32,112,97,114,97,109,32,112,108,97,105,110,116,101,120,116,32,112,114,101,32,115,99,114,105,112,116,32,115,101,97,114,99,104,32,115,101,99,116,105,111,110,32,115,101,108,101,99,116,32,115,111,117,114,99,101,32,115,116,121,108,101,32,115,117,109,109,97,114,121,32,116,97,98,108,101,32,116,98,111,100,121,32,116,100,32,116,101,109,112,108,97,116,101,32,116,101,120,116,97,114,101,97,32,116,102,111,111,116,32,116,104,32,116,104,101,97,100,32,116,105,116,108,101,32,116,114,32,116,114,97,99,107,32,117,108,32,119,98,114,32,120,109,112]
abbrev aUc:List UInt8:=[97,108,116,71,108,121,112,104,32,97,108,116,71,108,121,112,104,68,101,102,32,97,108,116,71,108,121,112,104,73,116,101,109,32,97,110,105,109,97,116,101,67,111,108,111,114,32,97,110,105,109,97,116,101,77,111,116,105,111,110,32,97,110,105,109,97,116,101,84,114,97,110,115,102,111,114,109,32,99,108,105,112,80,97,116,104,32,102,101,66,108,101,110,100,32,102,101,67,111,108,111,114,77,97,116,114,105,120,32,102,101,67,111,109,112,111,110,101,110,116,84,114,97,110,115,102,101,114,32,102,101,67,111,109,112,111,115,105,116,101,32,102,101,67,111,110,118,111,108,118,101,77,97,116,114,105,120,32,102,101,68,105,102,102,117,115,101,76,105,103,104,116,105,110,103,32,102,101,68,105,115,112,108,97,99,101,109,101,110,116,77,97,112,32,102,101,68,105,115,116,97,110,116,76,105,103,104,116,32,102,101,68,114,111,112,83,104,97,100,111,119,32,102,101,70,108,111,111,100,32,102,101,70,117,110,99,65,32,102,101,70,117,110,99,66,32,102,101,70,117,110,99,71,32,102,101,70,117,110,99,82,32,102,101,71,97,117,115,115,105,97,110,66,108,117,114,32,102,101,73,109,97,103,101,32,102,101,77,101,114,103,101,32,102,101,77,101,114,103,101,78,111,100,101,32,102,101,77,111,114,112,104,111,108,111,103,121,32,102,101,79,102,102,115,101,116,32,102,101,80,111,105,110,116,76,105,103,104,116,32,102,101,83,112,101,99,117,108,97,114,76,105,103,104,116,105,110,103,32,102,101,83,112,111,116,76,105,103,104,116,32,102,101,84,105,108,101,32,102,101,84,117,114,98,117,108,101,110,99,101,32,102,111,114,101,105,103,110,79,98,106,101,99,116,32,103,108,121,112,104,82,101,102,32,108,105,110,101,97,114,71,114,97,100,105,101,110,116,32,114,97,100,105,97,108,71,114,97,100,105,101,110,116,32,116,101,120,116,80,97,116,104]
abbrev aUd:List UInt8:=[116,101,109,112,108,97,116,101]
abbrev aUe:List UInt8:=[97,100,100,114,101,115,115,32,97,114,116,105,99,108,101,32,97,115,105,100,101,32,98,108,111,99,107,113,117,111,116,101,32,98,117,116,116,111,110,32,99,101,110,116,101,114,32,100,101,116,97,105,108,115,32,100,105,97,108,111,103,32,100,105,114,32,100,105,118,32,100,108,32,102,105,101,108,100,115,101,116,32,102,105,103,99,97,112,116,105,111,110,32,102,105,103,117,114,101,32,102,111,111,116,101,114,32,104,101,97,100,101,114,32,104,103,114,111,117,112,32,108,105,115,116,105,110,103,32,109,97,105,110,32,109,101,110,117,32,110,97,118,32,111,108,32,112,114,101,32,115,101,97,114,99,104,32,115,101,99,116,105,111,110,32,115,117,109,109,97,114,121,32,117,108]
abbrev aUf:List UInt8:=[97,100,100,114,101,115,115,32,97,114,116,105,99,108,101,32,97,115,105,100,101,32,98,108,111,99,107,113,117,111,116,101,32,99,101,110,116,101,114,32,100,101,116,97,105,108,115,32,100,105,97,108,111,103,32,100,105,114,32,100,105,118,32,100,108,32,102,105,101,108,100,115,101,116,32,102,105,103,99,97,112,116,105,111,110,32,102,105,103,117,114,101,32,102,111,111,116,101,114,32,104,101,97,100,101,114,32,104,103,114,111,117,112,32,109,97,105,110,32,109,101,110,117,32,110,97,118,32,111,108,32,115,101,97,114,99,104,32,115,101,99,116,105,111,110,32,115,117,109,109,97,114,121,32,117,108]
abbrev aUg:List UInt8:=[98,97,115,101,32,98,97,115,101,102,111,110,116,32,98,103,115,111,117,110,100,32,108,105,110,107,32,109,101,116,97,32,110,111,102,114,97,109,101,115,32,115,99,114,105,112,116,32,115,116,121,108,101,32,116,101,109,112,108,97,116,101,32,116,105,116,108,101]
abbrev aUh:List UInt8:=[120,108,105,110,107,58,97,99,116,117,97,116,101,32,120,108,105,110,107,58,97,114,99,114,111,108,101,32,120,108,105,110,107,58,104,114,101,102,32,120,108,105,110,107,58,114,111,108,101,32,120,108,105,110,107,58,115,104,111,119,32,120,108,105,110,107,58,116,105,116,108,101,32,120,108,105,110,107,58,116,121,112,101]
abbrev aUi:List UInt8:=[104,116,109,108]
abbrev aUj:List UInt8:=[97,112,112,108,101,116,32,99,97,112,116,105,111,110,32,104,116,109,108,32,109,97,114,113,117,101,101,32,111,98,106,101,99,116,32,116,97,98,108,101,32,116,100,32,116,101,109,112,108,97,116,101,32,116,104]
abbrev aUk:List UInt8:=[100,100,32,100,116,32,108,105,32,111,112,116,103,114,111,117,112,32,111,112,116,105,111,110,32,112,32,114,98,32,114,112,32,114,116,32,114,116,99]
abbrev aUl:List UInt8:=[98,32,98,105,103,32,99,111,100,101,32,101,109,32,102,111,110,116,32,105,32,115,32,115,109,97,108,108,32,115,116,114,105,107,101,32,115,116,114,111,110,103,32,116,116,32,117]
abbrev aUm:List UInt8:=[99,97,112,116,105,111,110,32,99,111,108,103,114,111,117,112,32,116,98,111,100,121,32,116,100,32,116,102,111,111,116,32,116,104,32,116,104,101,97,100,32,116,114]
abbrev aUn:List UInt8:=[97,110,110,111,116,97,116,105,111,110,45,120,109,108]
abbrev aUo:List UInt8:=[98,111,100,121]
abbrev aUp:List UInt8:=[104,49,32,104,50,32,104,51,32,104,52,32,104,53,32,104,54]
abbrev aUq:List UInt8:=[97,32,98,32,98,105,103,32,99,111,100,101,32,101,109,32,102,111,110,116,32,105,32,110,111,98,114,32,115,32,115,109,97,108,108,32,115,116,114,105,107,101,32,115,116,114,111,110,103,32,116,116,32,117]
abbrev aUr:List UInt8:=[97,112,112,108,101,116,32,109,97,114,113,117,101,101,32,111,98,106,101,99,116]
abbrev aUs:List UInt8:=[116,97,98,108,101,32,116,98,111,100,121,32,116,102,111,111,116,32,116,104,101,97,100,32,116,114]
abbrev aUt:List UInt8:=[100,101,115,99,32,102,111,114,101,105,103,110,79,98,106,101,99,116,32,116,105,116,108,101]
abbrev aUu:List UInt8:=[98,97,115,101,32,98,97,115,101,102,111,110,116,32,98,103,115,111,117,110,100,32,108,105,110,107,32,109,101,116,97]
abbrev aUv:List UInt8:=[104,101,97,100]
abbrev aUw:List UInt8:=[116,97,98,108,101]
abbrev aUx:List UInt8:=[98,117,116,116,111,110]
abbrev aUy:List UInt8:=[102,111,114,109]
abbrev aUz:List UInt8:=[116,105,116,108,101]
abbrev aUA:List UInt8:=[111,112,116,103,114,111,117,112,32,111,112,116,105,111,110]
abbrev aUB:List UInt8:=[97,112,112,108,105,99,97,116,105,111,110,47,120,104,116,109,108,43,120,109,108]
abbrev aUC:List UInt8:=[110,111,115,99,114,105,112,116]
abbrev aUD:List UInt8:=[120,109,108,110,115,58,120,108,105,110,107]
abbrev aUE:List UInt8:=[99,97,112,116,105,111,110]
abbrev aUF:List UInt8:=[104,116,109,108,32,116,97,98,108,101,32,116,101,109,112,108,97,116,101]
abbrev aUG:List UInt8:=[102,111,114,101,105,103,110,79,98,106,101,99,116]
abbrev aUH:List UInt8:=[120,108,105,110,107,58,97,114,99,114,111,108,101]
abbrev aUI:List UInt8:=[120,108,105,110,107,58,97,99,116,117,97,116,101]
abbrev aUJ:List UInt8:=[109,105,32,109,110,32,109,111,32,109,115,32,109,116,101,120,116]
abbrev aUK:List UInt8:=[104,101,97,100,32,116,101,109,112,108,97,116,101,32,98,111,100,121,32,104,116,109,108,32,98,114]
abbrev aUL:List UInt8:=[120,108,105,110,107,58,116,105,116,108,101]
abbrev aUM:List UInt8:=[120,109,108,58,115,112,97,99,101]
abbrev aUN:List UInt8:=[120,109,108,110,115]
abbrev aUO:List UInt8:=[111,112,116,103,114,111,117,112]
abbrev aUP:List UInt8:=[110,111,102,114,97,109,101,115,32,115,116,121,108,101]
abbrev aUQ:List UInt8:=[99,111,108,103,114,111,117,112]
abbrev aUR:List UInt8:=[120,108,105,110,107,58,104,114,101,102]
abbrev aUS:List UInt8:=[120,108,105,110,107,58,114,111,108,101]
abbrev aUT:List UInt8:=[120,108,105,110,107,58,115,104,111,119]
abbrev aUU:List UInt8:=[120,108,105,110,107,58,116,121,112,101]
abbrev aUV:List UInt8:=[102,114,97,109,101,115,101,116]
abbrev aUW:List UInt8:=[100,101,102,105,110,105,116,105,111,110,117,114,108]
abbrev aUX:List UInt8:=[120,109,108,58,108,97,110,103]
abbrev aUY:List UInt8:=[111,112,116,105,111,110]
abbrev aUZ:List UInt8:=[100,101,102,105,110,105,116,105,111,110,85,82,76]
abbrev aU0:List UInt8:=[104,105,100,100,101,110]
abbrev aU1:List UInt8:=[116,102,111,111,116]
abbrev aU2:List UInt8:=[115,99,114,105,112,116]
abbrev aU3:List UInt8:=[116,98,111,100,121]
abbrev aU4:List UInt8:=[116,104,101,97,100]
abbrev aU5:List UInt8:=[98,117,116,116,111,110,32,108,105,115,116,105,110,103,32,112,114,101]
abbrev aU6:List UInt8:=[104,101,97,100,32,98,111,100,121,32,104,116,109,108,32,98,114]
abbrev aU7:List UInt8:=[115,101,108,101,99,116]
abbrev aU8:List UInt8:=[116,121,112,101]
abbrev aU9:List UInt8:=[109,97,114,113,117,101,101]
abbrev aVa:List UInt8:=[116,101,120,116,47,104,116,109,108]
abbrev aVb:List UInt8:=[120,108,105,110,107]
abbrev aVc:List UInt8:=[97,112,112,108,101,116]
abbrev aVd:List UInt8:=[101,110,99,111,100,105,110,103]
abbrev aVe:List UInt8:=[111,98,106,101,99,116]
abbrev aVf:List UInt8:=[97,114,99,114,111,108,101]
abbrev aVg:List UInt8:=[97,99,116,117,97,116,101]
abbrev aVh:List UInt8:=[98,108,111,99,107,113,117,111,116,101]
abbrev aVi:List UInt8:=[102,105,103,99,97,112,116,105,111,110]
abbrev aVj:List UInt8:=[112,32,108,105,32,100,100,32,100,116]
abbrev aVk:List UInt8:=[115,111,117,114,99,101]
abbrev aVl:List UInt8:=[98,111,100,121,32,104,116,109,108]
abbrev aVm:List UInt8:=[102,105,101,108,100,115,101,116]
abbrev aVn:List UInt8:=[100,101,115,99]
abbrev aVo:List UInt8:=[110,111,98,114]
abbrev aVp:List UInt8:=[105,110,112,117,116]
abbrev aVq:List UInt8:=[111,108,32,117,108]
abbrev aVr:List UInt8:=[100,100,32,100,116]
abbrev aVs:List UInt8:=[105,109,97,103,101]
abbrev aVu:List UInt8:=[115,112,97,99,101]
abbrev aVv:List UInt8:=[112,97,114,97,109]
abbrev aVw:List UInt8:=[116,114,97,99,107]
abbrev aVC:List UInt8:=[105,109,103]
abbrev aVD:List UInt8:=[104,114,101,102]
abbrev aVE:List UInt8:=[114,111,108,101]
abbrev aVF:List UInt8:=[115,104,111,119]
theorem Ab{p:Prop}(h:p:=by omega):p:=h
theorem AH{p:Prop}(h:p:=by simp):p:=h
theorem AM{p:Prop}(h:p:=by decide):p:=h
theorem C4{p:Prop}(h:p:=by decide +kernel):p:=h
theorem Dx{p:Prop}(h:p:=by simp only; omega):p:=h
theorem Ei{p:Prop}(h:p:=by simp; omega):p:=h
theorem I1{p:Prop}(h:p:=by simp[Go.Op.operands]):p:=h
theorem Ry{p:Prop}(h:p:=by simp[Go.Value.cells,Go.Value.oneCell']):p:=h
section
section
namespace Go.Am
abbrev Ai:=List UInt8
inductive Aa where
 |bool (b:Bool)
 |int (k:IntKind) (n:Int)
 |str (s:Ai)
 |ptr (p:Option (Nat×Nat))
 |CH (cells:List Aa)
 |sl (size:Nat) (AE:List (List Aa))
 |slnil
 |Gf (size:Nat)
 |CF (id off len size:Nat)
 |map (m:Option Nat)
 |func (fn:Fn) (first captured:List Aa)
 |nilFunc
 |iface (t:TypeId) (v:Aa)
 |nilIface
 |agg (cells:List Aa)
 |tuple (vs:List Aa)
 deriving Inhabited
mutual
def Aa.beq:Aa->Aa->Bool
 | .bool a,.bool b=>a==b
 | .int k a,.int l b=>k==l&&a==b
 | .str a,.str b=>a==b
 | .ptr a,.ptr b=>a==b
 | .CH a,.CH b=>Aa.Sc a b
 | .sl n a,.sl m b=>n==m&&Aa.Sd a b
 | .slnil,.slnil=>true
 | .Gf a,.Gf b=>a==b
 | .CF a b c d,.CF a' b' c' e=>a==a'&&b==b'&&c==c'&&d==e
 | .map a,.map b=>a==b
 | .func f a b,.func f' a' b'=>f==f'&&Aa.Sc a a'&&Aa.Sc b b'
 | .nilFunc,.nilFunc=>true
 | .iface t a,.iface t' a'=>t==t'&&Aa.beq a a'
 | .nilIface,.nilIface=>true
 | .agg a,.agg b=>Aa.Sc a b
 | .tuple a,.tuple b=>Aa.Sc a b
 |_,_=>false
def Aa.Sc:List Aa->List Aa->Bool
 |[],[]=>true
 |a::x,b::y=>Aa.beq a b&&Aa.Sc x y
 |_,_=>false
def Aa.Sd:List (List Aa)->List (List Aa)->Bool
 |[],[]=>true
 |a::x,b::y=>Aa.Sc a b&&Aa.Sd x y
 |_,_=>false
end
def Aa.cells:Aa->List Aa
 | .agg cs=>cs
 | .tuple _=>[]
 |v=>[v]
inductive DA where
 |cells (cs:List Aa)
 |map (es:List (Aa×Aa))
 |CR
 deriving Inhabited
abbrev Ah:=List DA
inductive lR where
 |copy (size:Nat)
 |clear (size:Nat) (zero:List Aa)
 |et (size:Nat) (lo hi:Bool)
 |rB (size:Nat)
 |aFp (t:TypeId)
 |ob (zero:Aa) (ok:Bool)
 |TL (zero:Aa)
 |rC (zero:Aa)
 |Pm
 |L_
 |od
 |Rq (g:Ah->List Aa->Option (Ah×Aa))
def lR.aFq:lR->Bool
 | .rB _| .clear _ _| .Pm| .L_=>true
 |_=>false
inductive Es where
 |undef
 |skip
 |val (v:Aa)
 |O8 (b:Bool)
 |Bu (v:Aa)
 |box (ver:Nat) (cells:List Aa) (Bu:List Nat)
 |Fi (s off:Nat)
 deriving Inhabited
abbrev BT:=List Es
def BT.at(U:BT)(s:Nat):Es:=U.getD s .undef
def Es.Hr:Es->Option Aa
 | .val v| .Bu v=>some v
 | .O8 b=>some (.bool b)
 |_=>none
inductive FK where
 |b|i|s
 deriving DecidableEq,Inhabited
inductive NK where
 |sl|fn|mp
 deriving DecidableEq,Inhabited
inductive Se where
 |int (op:BinOp)
 |str (op:BinOp)
 |beq (neg:Bool)
 |geq (neg:Bool) (ks:List FK)
 |peq (neg:Bool)
 |Ga (neg:Bool) (k:NK)
 |un (op:UnOp)
 |conv(k:IntKind)
 |pick
 |part (off:Nat) (n:Option Nat)
 |aBB (len size:Nat) (n:Option Nat)
 |Zo
 |Lh (off:Nat)
 |Fl (size:Nat)
 |UB (len size:Nat)
 |len (isStr:Bool)
 |append (size bytes:Nat)
 |K0 (size:Nat) (isStr lo hi:Bool)
 |ext (i:Nat)
 |JH
 |Dm (size:Nat)
 |Gf (size:Nat)
 |Co (zero:List Aa) (places:List (Nat×Nat))
 |LB (isMax:Bool)
 |WV
 |s2b
 |i2s
 deriving Inhabited
def Pn:Value->Option Aa
 | .bool b=>some (.bool b)
 | .int k n=>some (.int k n)
 | .string s=>some (.str s.data.toList)
 | .pointer none=>some (.ptr none)
 | .slice none 0 0=>some .slnil
 | .map none=>some (.map none)
 | .func fn f c=>if f.size=0/\c.size=0 then some (.func fn [] []) else none
 | .nilFunc=>some .nilFunc
 | .nilIface=>some .nilIface
 |_=>none
def L7:List Value->Option (List Aa)
 |[]=>some []
 |v::vs=>match Pn v,L7 vs with
  |some a,some as=>some (a::as)
  |_,_=>none
def K4:Value->Option Aa
 | .agg cs=>(L7 cs.toList).map .agg
 |v=>Pn v
def Qh:Sem Value->Option Value
 | .pure v=>some v
 |_=>none
def AX:Nat:=140737488355328
def wS(op:BinOp)(k:IntKind)(a:Int)(l:IntKind)(b:Int):Option Aa:=
 (Qh (binOp op 0 (.int k a) (.int l b))).bind λv=>match v with
  | .int k n=>some (.int k n)
  | .bool b=>some (.bool b)
  |_=>none
def lS(op:BinOp)(a b:Ai):Option Aa:=
 match op with
 | .add=>if a.length+b.length<=9223372036854775807 then some (.str (a++b)) else none
 | .eql=>some (.bool (a==b))
 | .neq=>some (.bool (!(a==b)))
 | .lss=>some (.bool (Op.bytesLess a b))
 | .leq=>some (.bool (Op.bytesLess a b||a==b))
 | .gtr=>some (.bool (!(Op.bytesLess a b||a==b)))
 | .geq=>some (.bool (!(Op.bytesLess a b)))
 |_=>none
def LC:FK->Aa->Aa->Option Bool
 | .b,.bool a,.bool b=>some (a==b)
 | .i,.int k a,.int l b=>if k=l then some (a==b) else none
 | .s,.str a,.str b=>some (a==b)
 |_,_,_=>none
def D8:List FK->List Aa->List Aa->Option Bool
 |[],[],[]=>some true
 |k::ks,a::x,b::y=>match LC k a b,D8 ks x y with
  |some e,some es=>some (e&&es)
  |_,_=>none
 |_,_,_=>none
def wT:Aa->Aa->Option Bool
 | .ptr none,.ptr b=>some b.isNone
 | .ptr (some _),.ptr none=>some false
 | .ptr (some a),.ptr (some b)=>if a=b then some true else none
 | .ptr none,.CH _=>some false
 | .CH _,.ptr none=>some false
 |_,_=>none
def wU:NK->Aa->Aa->Option Bool
 | .sl,.slnil,.slnil=>some true
 | .sl,.slnil,.sl _ _=>some false
 | .sl,.sl _ _,.slnil=>some false
 | .sl,.slnil,.Gf _=>some false
 | .sl,.Gf _,.slnil=>some false
 | .sl,.slnil,.CF _ _ _ _=>some false
 | .sl,.CF _ _ _ _,.slnil=>some false
 | .fn,.nilFunc,.nilFunc=>some true
 | .fn,.nilFunc,.func _ _ _=>some false
 | .fn,.func _ _ _,.nilFunc=>some false
 | .mp,.map none,.map b=>some b.isNone
 | .mp,.map (some _),.map none=>some false
 |_,_,_=>none
def Ft(cs:List Aa)(off:Nat):Option Nat->Option Aa
 |none=>cs[off]?
 |some n=>if off+n<=cs.length then some (.agg ((cs.drop off).take n)) else none
def Me(n:Int)(len:Nat):Option Nat:=if 0<=n/\n<len then some n.toNat else none
def Fm(n:Int)(top:Nat):Option Nat:=if 0<=n/\n<=top then some n.toNat else none
def Ed(lo hi:Bool)(len:Nat)(as:List Aa):Option (Nat×Nat):=
 match lo,hi with
 |false,false=>match as with
  |[]=>some (0,len)
  |_=>none
 |false,true=>match as with
  |[.int _ h]=>(Fm h len).map λh=>(0,h)
  |_=>none
 |true,false=>match as with
  |[.int _ l]=>(Fm l len).map λl=>(l,len)
  |_=>none
 |true,true=>match as with
  |[.int _ l,.int _ h]=>(Fm h len).bind λh=>(Fm l h).map λl=>(l,h)
  |_=>none
def MW:List (List Aa)->Option Ai
 |[]=>some []
 |[.int .u8 n]::rs=>(MW rs).map λl=>n.toNat.toUInt8::l
 |_=>none
def Cf(s:Ai):List (List Aa):=s.map λb=>[.int .u8 b.toNat]
def DO(size bytes:Nat)(s:Aa)(AE:List (List Aa)):Option Aa:=
 match AE with
 |[]=>match s with
  | .slnil=>some .slnil
  | .Gf z=>if z=size then some (.Gf z) else none
  | .sl z r=>if z=size then some (.sl z r) else none
  |_=>none
 |AE=>match s with
  | .slnil=>if AE.length*bytes<=AX then some (.sl size AE) else none
  | .Gf z=>if z=size/\AE.length*bytes<=AX then some (.sl size AE) else none
  | .sl z r=>if z=size/\(r.length+AE.length)*bytes<=AX then some (.sl size (r++AE)) else none
  |_=>none
def AR(cs:List Aa):List ((Nat×Nat)×Aa)->Option (List Aa)
 |[]=>some cs
 |((off,size),v)::rest=>if 0<size/\v.cells.length=size/\off+size<=cs.length then AR (cs.take off++v.cells++cs.drop (off+size)) rest else none
def aAg(k:IntKind)(n:Int):Option Aa:=
 (Qh (Op.unary .xor (.int k n))).bind λv=>match v with
  | .int k n=>some (.int k n)
  |_=>none
def aBC:UnOp->Aa->Option Aa
 | .not,.bool b=>some (.bool (!b))
 | .neg,.int k n=>some (.int k (k.wrap (0 -n)))
 | .xor,.int k n=>aAg k n
 |_,_=>none
def WW(p:Aa)(off:Nat):Option Aa:=
 match p with
 | .CH cs=>some (.CH (cs.drop off))
 | .ptr (some (id,o))=>some (.ptr (some (id,o+off)))
 |_=>none
def elemOf(size:Nat)(s:Aa)(i:Int):Option Aa:=
 match s with
 | .sl z AE=>if z=size then(if 0<=i then(AE[i.toNat]?).map .CH else none) else none
 | .CF id off len z=>if z=size then(Me i len).map λi=> .ptr (some (id,off+i*size)) else none
 |_=>none
def lenOf(isStr:Bool)(s:Aa):Option Aa:=
 match s with
 | .sl _ AE=>if isStr then none else some (.int .i64 AE.length)
 | .CF _ _ n _=>if isStr then none else some (.int .i64 n)
 | .slnil=>if isStr then none else some (.int .i64 0)
 | .Gf _=>if isStr then none else some (.int .i64 0)
 | .str s=>if isStr then some (.int .i64 s.length) else none
 |_=>none
def HY(size bytes:Nat)(s x:Aa):Option Aa:=
 match x with
 | .slnil=>DO size bytes s []
 | .Gf z=>if z=size then DO size bytes s [] else none
 | .sl z AE=>if z=size then DO size bytes s AE else none
 | .str x=>if size=1 then DO size bytes s (Cf x) else none
 |_=>none
def Kd(size:Nat)(isStr lo hi:Bool)(s:Aa)(as:List Aa):Option Aa:=
 match s with
 | .str s=>if isStr then(Ed lo hi s.length as).map λ(l,h)=> .str ((s.take h).drop l) else none
 | .sl z AE=>if isStr=false/\z=size then(Ed lo hi AE.length as).map λ(l,h)=> .sl z ((AE.take h).drop l) else none
 | .CF id off n z=>if isStr=false/\z=size then(Ed lo hi n as).bind λ(l,h)=>if l<n then some (.CF id (off+l*z) (h-l) z) else some (.sl z []) else none
 | .slnil=>if isStr then none else(Ed lo hi 0 as).map λ_=> .slnil
 |_=>none
def lT:Aa->Option Aa
 | .ptr (some p)=>some (.ptr (some p))
 | .CH cs=>some (.CH cs)
 | .func (.func f) a b=>some (.func (.func f) a b)
 |_=>none
def WX:Aa->Option Aa
 | .sl 1 AE=>(MW AE).map .str
 | .slnil=>some (.str [])
 |_=>none
def AD(p:Se)(args:List Aa):Option Aa:=
 match p with
 | .int op=>match args with
  |[.int k a,.int l b]=>wS op k a l b
  |_=>none
 | .str op=>match args with
  |[.str a,.str b]=>lS op a b
  |_=>none
 | .beq neg=>match args with
  |[.bool a,.bool b]=>some (.bool ((a==b) != neg))
  |_=>none
 | .geq neg ks=>match args with
  |[.agg a,.agg b]=>(D8 ks a b).map λe=> .bool (e != neg)
  |_=>none
 | .peq neg=>match args with
  |[a,b]=>(wT a b).map λe=> .bool (e != neg)
  |_=>none
 | .Ga neg k=>match args with
  |[a,b]=>(wU k a b).map λe=> .bool (e != neg)
  |_=>none
 | .un op=>match args with
  |[v]=>aBC op v
  |_=>none
 | .conv k=>match args with
  |[.int _ n]=>some (.int k (k.wrap n))
  |_=>none
 | .i2s=>match args with
  |[.int _ n]=>some (.str (Utf8.encode n).data.toList)
  |_=>none
 | .pick=>match args with
  |[.bool c,a,b]=>some (if c then a else b)
  |_=>none
 | .part off n=>match args with
  |[.agg cs]=>Ft cs off n
  |_=>none
 | .aBB len size n=>match args with
  |[.agg cs,.int _ i]=>(Me i len).bind λi=>Ft cs (i*size) n
  |_=>none
 | .Zo=>match args with
  |[.str s,.int _ i]=>if 0<=i then(s[i.toNat]?).map λb=> .int .u8 b.toNat else none
  |_=>none
 | .Lh off=>match args with
  |[p]=>WW p off
  |_=>none
 | .Fl size=>match args with
  |[s,.int _ i]=>elemOf size s i
  |_=>none
 | .UB len size=>match args with
  |[p,.int _ i]=>(Me i len).bind λi=>WW p (i*size)
  |_=>none
 | .len isStr=>match args with
  |[s]=>lenOf isStr s
  |_=>none
 | .append size bytes=>match args with
  |[s,x]=>HY size bytes s x
  |_=>none
 | .K0 size isStr lo hi=>match args with
  |s::as=>Kd size isStr lo hi s as
  |_=>none
 | .ext i=>match args with
  |[.tuple vs]=>vs[i]?
  |_=>none
 | .JH=>match args with
  |[v]=>lT v
  |_=>none
 | .Dm size=>if args.all (λa=>a.cells.length==size)&&decide (args.length*size<=16777216) then some (.sl size (args.map (·.cells))) else none
 | .Gf size=>if args.isEmpty then some (.Gf size) else none
 | .Co zero places=>if places.length=args.length then(AR zero (places.zip args)).map .agg else none
 | .LB isMax=>match args with
  |[.int k a,.int l b]=>if k=l then some (.int k (if isMax then(if b>a then b else a) else(if b<a then b else a))) else none
  |_=>none
 | .WV=>match args with
  |[v]=>WX v
  |_=>none
 | .s2b=>match args with
  |[.str s]=>if s.length<=AX then some (.sl 1 (Cf s)) else none
  |_=>none
inductive DX where
 |normal
 |exit (id:Nat)
 |ret
 deriving DecidableEq,Inhabited
inductive IT where
 |ret (x:DX) (vs:List Aa)
 |fail
 |op (o:Se) (args:List Aa) (k:Aa->IT)
 |cells (n:Nat) (v:Aa) (k:List Aa->IT)
 |Gg (c:Aa) (t e:IT)
 |load (n:Option Nat) (p:Aa) (k:Aa->IT)
 |store (n:Nat) (p v:Aa) (k:IT)
 |alloc (n:Nat) (v:Aa) (k:Aa->IT)
 |call (f:FuncId) (args:List Aa) (k:Aa->IT)
 |Jd (fn:Aa) (args:List Aa) (k:Aa->IT)
 |B7 (f:FuncId) (args:List Aa) (k:Aa->IT)
 |loop (key:Nat) (init:List Aa) (body:List Aa->IT) (k:DX->List Aa->IT)
 |Of (key:Nat) (t:IT) (k:DX->List Aa->IT)
 |same (a b:Aa) (k:IT)
 |Po (k:Aa->IT)
 |Kz (m key v:Aa) (k:IT)
 |Mf (zero:Aa) (ok:Bool) (m key:Aa) (k:Aa->IT)
 |make (size bytes:Nat) (zero:List Aa) (len cap:Aa) (k:Aa->IT)
 |Li (size bytes:Nat) (s x:Aa) (k:Aa->IT)
 |Fa (s:Aa) (k:Aa->IT)
 |Pk (v:Aa) (k:Aa->IT)
 |Pp (off:Nat) (p:Aa) (k:IT)
 |JI (size bytes:Nat) (s x:Aa) (k:Aa->IT)
 |GC (size bytes:Nat) (s x:Aa) (k:Aa->IT)
 |mem (o:lR) (args:List Aa) (k:Aa->IT)
 |wV (f:FuncId) (args:List Aa) (k:Aa->IT)
 deriving Inhabited
def Aa.MT:Aa->Bool
 | .bool _| .int _ _| .str _=>true
 |_=>false
def A8(h:Ah)(n:Option Nat):Aa->Option Aa
 | .CH cs=>Ft cs 0 n
 | .ptr (some (id,off))=>match h[id]? with
  |some (.cells cs)=>Ft cs off n
  |_=>none
 |_=>none
def Cv(h:Ah)(n:Nat)(p v:Aa):Option Ah:=
 match p with
 | .ptr (some (id,off))=>match h[id]? with
  |some (.cells cs)=>if v.cells.length=n/\off+n<=cs.length then some (h.set id (.cells (cs.take off++v.cells++cs.drop (off+n)))) else none
  |_=>none
 |_=>none
def WY(h:Ah)(n:Nat)(v:Aa):Option (Ah×Aa):=
 if v.cells.length=n then some (h++[.cells v.cells],.ptr (some (h.length,0))) else none
def Sf(s:Ai):List (Aa×Aa)->Option (Option Aa)
 |[]=>some none
 |(.str t,v)::es=>if s=t then some (some v) else Sf s es
 |_=>none
def Ny(s:Ai)(v:Aa):List (Aa×Aa)->Option (List (Aa×Aa))
 |[]=>some [(.str s,v)]
 |(.str t,v')::es=>if s=t then some ((.str s,v)::es) else(Ny s v es).map λes=>(.str t,v')::es
 |_=>none
def Q2(h:Ah)(m k v:Aa):Option Ah:=
 match m,k with
 | .map (some id),.str s=>match h[id]? with
  |some (.map es)=>(Ny s v es).map λes=>h.set id (.map es)
  |_=>none
 |_,_=>none
def TM(h:Ah)(m k:Aa):Option (Option Aa):=
 match m,k with
 | .map none,.str _=>some none
 | .map (some id),.str s=>match h[id]? with
  |some (.map es)=>Sf s es
  |_=>none
 |_,_=>none
def Pq(h:Ah)(zero:Aa)(ok:Bool)(m k:Aa):Option Aa:=
 (TM h m k).map λr=>match r with
  |some v=>if ok then .tuple [v,.bool true] else v
  |none=>if ok then .tuple [zero,.bool false] else zero
def Sg(h:Ah)(size bytes:Nat)(zero:List Aa):Aa->Aa->Option (Ah×Aa)
 | .int .i64 n,.int .i64 c=>if 0<=n/\n<=c/\c.toNat*bytes<=AX/\zero.length=size then
  some (h++[.cells (List.replicate c.toNat zero).flatten],.CF h.length 0 n.toNat size) else none
 |_,_=>none
def Pr(size:Nat):Aa->Bool
 | .slnil=>true
 | .Gf z=>z==size
 | .sl z []=>z==size
 |_=>false
def KK(h:Ah)(size bytes:Nat)(s:Aa):Aa->Option (Ah×Aa)
 | .sl z AE=>if Pr size s then(match AE with
   |[]=>some (h,s)
   |AE=>if z=size/\AE.length*bytes<=AX then some (h++[.cells AE.flatten],.CF h.length 0 AE.length size) else none)
  else none
 | .slnil=>if Pr size s then some (h,s) else none
 | .Gf z=>if Pr size s&&z==size then some (h,s) else none
 |_=>none
def IW(h:Ah):Aa->Option (Ah×Aa)
 | .str s=>if s.length<=AX then some (h++[.cells (s.map λb=> .int .u8 b.toNat)],.CF h.length 0 s.length 1) else none
 |_=>none
def CA(cs:List Aa)(z:Nat):Nat->Nat->List (List Aa)
 |_,0=>[]
 |off,n+1=>(cs.drop off).take z::CA cs z (off+z) n
def KA(h:Ah):Aa->Option (Ah×Aa)
 | .CF id off n z=>match h[id]? with
  |some (.cells cs)=>if off+n*z<=cs.length then some (h.set id .CR,.sl z (CA cs z off n)) else none
  |_=>none
 |v=>some (h,v)
def Mg(h:Ah)(off:Nat)(p:Aa):Option Ah:=
 match p with
 | .ptr none=>some h
 | .ptr (some (id,o))=>match h[id]? with
  |some (.cells cs)=>match cs[o+off]? with
   |some v=>(KA h v).bind λ(h',v')=>match h'[id]? with
    |some (.cells GY)=>some (h'.set id (.cells (GY.set (o+off) v')))
    |_=>none
   |none=>none
  |_=>none
 |_=>none
def GZ(h:Ah)(size:Nat):Aa->Option (List (List Aa))
 | .slnil=>some []
 | .Gf z=>if z=size then some [] else none
 | .sl z AE=>if z=size then some AE else none
 | .str s=>if size=1 then some (Cf s) else none
 | .CF id off n z=>if z=size then match h[id]? with
   |some (.cells cs)=>if off+n*z<=cs.length then some (CA cs z off n) else none
   |_=>none
  else none
 |_=>none
def Gb(h:Ah)(size bytes:Nat)(s x:Aa):Option (Ah×Aa):=
 match GZ h size x with
 |none=>none
 |some []=>match s with
  | .slnil=>some (h,s)
  | .Gf z=>if z=size then some (h,s) else none
  | .CF _ _ _ z=>if z=size then some (h,s) else none
  |_=>none
 |some AE=>match s with
  | .slnil=>if AE.length*bytes<=AX then some (h++[.cells AE.flatten],.CF h.length 0 AE.length size) else none
  | .Gf z=>if z=size/\AE.length*bytes<=AX then some (h++[.cells AE.flatten],.CF h.length 0 AE.length size) else none
  | .CF id off n z=>match h[id]? with
   |some (.cells cs)=>if z=size then
     (if off+(n+AE.length)*z<=cs.length then some (h.set id (.cells (cs.take (off+n*z)++AE.flatten++cs.drop (off+(n+AE.length)*z))),.CF id off (n+AE.length) z)
     else if off=0/\n*z<=cs.length/\(n+AE.length)*bytes<=AX then some (h.set id .CR++[.cells (cs.take (n*z)++AE.flatten)],.CF h.length 0 (n+AE.length) z) else none)
    else none
   |_=>none
  |_=>none
def Q3(h:Ah)(size bytes:Nat)(s x:Aa):Option Aa:=(GZ h size x).bind (DO size bytes s)
def wW(h:Ah)(size:Nat)(d x:Aa):Option (Ah×Aa):=
 match GZ h size x with
 |none=>none
 |some AE=>match d with
  | .slnil=>if AE.length=0 then some (h,.int .i64 0) else none
  | .CF id off n z=>match h[id]? with
   |some (.cells cs)=>if z=size/\AE.length<=n/\off+n*z<=cs.length then some (h.set id (.cells (cs.take off++AE.flatten++cs.drop (off+AE.length*z))),.int .i64 AE.length) else none
   |_=>none
  |_=>none
def WZ(h:Ah)(size:Nat)(zero:List Aa):Aa->Option (Ah×Aa)
 | .slnil=>some (h,.bool true)
 | .CF id off n z=>match h[id]? with
  |some (.cells cs)=>if z=size/\zero.length=size/\off+n*z<=cs.length then some (h.set id (.cells (cs.take off++(List.replicate n zero).flatten++cs.drop (off+n*z))),.bool true) else none
  |_=>none
 |_=>none
def lU(h:Ah)(size:Nat)(lo hi:Bool)(s:Aa)(as:List Aa):Option (Ah×Aa):=
 match s with
 | .CF id off n z=>match h[id]? with
  |some (.cells cs)=>if z=size/\hi=true/\off<=cs.length then(Ed lo hi ((cs.length-off)/z) as).bind λ(l,r)=>if l<(cs.length-off)/z then some (h,.CF id (off+l*z) (r-l) z) else none else none
  |_=>none
 |_=>none
def W0(size:Nat):List Aa->Bool
 |[s,.int _ l,.int _ r,.int _ m]=>match s with
  | .CF _ _ n z=>z=size&&decide (0<=l)&&decide (l<=r)&&decide (r<=m)&&decide (m<=n)
  | .sl z AE=>z=size&&decide (0<=l)&&decide (l<=r)&&decide (r<=m)&&decide (m<=AE.length)
  |_=>false
 |_=>false
def LD(k:Int):List (Aa×Aa)->Nat->Option (Option (Nat×Aa))
 |[],_=>some none
 |(.int .i64 t,v)::es,i=>if k=t then some (some (i,v)) else LD k es (i+1)
 |_,_=>none
def rD(zero:Aa)(ok:Bool):Option (Nat×Aa)->Aa
 |some (_,v)=>if ok then .tuple [v,.bool true] else v
 |none=>if ok then .tuple [zero,.bool false] else zero
def wX(h:Ah)(zero:Aa)(ok:Bool)(m k:Aa):Option (Ah×Aa):=
 match m,k with
 | .map none,.int .i64 _=>some (h,rD zero ok none)
 | .map (some id),.int .i64 n=>match h[id]? with
  |some (.map es)=>(LD n es 0).map λr=>(h,rD zero ok r)
  |_=>none
 |_,_=>none
def V5(h:Ah)(zero m k:Aa):Option (Ah×Aa):=
 match m,k with
 | .map (some id),.int .i64 n=>match h[id]? with
  |some (.map es)=>(LD n es 0).map λr=>match r with
   |some (i,v)=>(h,.tuple [v,.int .i64 i])
   |none=>(h.set id (.map (es++[(k,zero)])),.tuple [zero,.int .i64 es.length])
  |_=>none
 |_,_=>none
def W8(k:Ai):List (Aa×Aa)->Nat->Option (Option (Nat×Aa))
 |[],_=>some none
 |(.str t,v)::es,i=>if k=t then some (some (i,v)) else W8 k es (i+1)
 |_,_=>none
def cG(h:Ah)(zero m k:Aa):Option (Ah×Aa):=
 match m,k with
 | .map (some id),.str n=>match h[id]? with
  |some (.map es)=>(W8 n es 0).map λr=>match r with
   |some (i,v)=>(h,.tuple [v,.int .i64 i])
   |none=>(h.set id (.map (es++[(k,zero)])),.tuple [zero,.int .i64 es.length])
  |_=>none
 |_,_=>none
def V6(h:Ah)(m i v:Aa):Option (Ah×Aa):=
 match m,i with
 | .map (some id),.int .i64 n=>match h[id]? with
  |some (.map es)=>if 0<=n then match es[n.toNat]? with
   |some (k,_)=>some (h.set id (.map (es.set n.toNat (k,v))),.bool true)
   |none=>none
   else none
  |_=>none
 |_,_=>none
def oe(h:Ah)(m k v:Aa):Option (Ah×Aa):=
 match m,k with
 | .map (some id),.int .i64 n=>match h[id]? with
  |some (.map es)=>match LD n es 0 with
   |some none=>some (h.set id (.map (es++[(.int .i64 n,v)])),.bool true)
   |_=>none
  |_=>none
 |_,_=>none
def Qi(h:Ah):List Aa->Option (Ah×Aa)
 |[.slnil,.int .i64 i,.sl 1 [[.int .i64 x]]]=>if i=0 then some (h++[.cells [.int .i64 x]],.CF h.length 0 1 1) else none
 |[.CF id 0 n 1,.int .i64 i,.sl 1 [[.int .i64 x]]]=>match h[id]? with
  |some (.cells cs)=>if 0<=i/\i.toNat<=n/\n<=cs.length/\(n+1)*8<=AX then some (h.set id .CR++[.cells (cs.take i.toNat++[.int .i64 x]++(cs.take n).drop i.toNat)],.CF h.length 0 (n+1) 1) else none
  |_=>none
 |_=>none
def E3(o:lR)(h:Ah)(args:List Aa):Option (Ah×Aa):=
 match o with
 | .copy size=>match args with
  |[d,x]=>wW h size d x
  |_=>none
 | .clear size zero=>match args with
  |[s]=>WZ h size zero s
  |_=>none
 | .et size lo hi=>match args with
  |s::as=>lU h size lo hi s as
  |_=>none
 | .rB size=>if W0 size args then some (h,.bool true) else none
 | .aFp t=>match args with
  |[v]=>some (h,.iface t v)
  |_=>none
 | .ob zero ok=>match args with
  |[m,k]=>wX h zero ok m k
  |_=>none
 | .TL zero=>match args with
  |[m,k]=>V5 h zero m k
  |_=>none
 | .rC zero=>match args with
  |[m,k]=>cG h zero m k
  |_=>none
 | .Pm=>match args with
  |[m,i,v]=>V6 h m i v
  |_=>none
 | .L_=>match args with
  |[m,k,v]=>oe h m k v
  |_=>none
 | .od=>Qi h args
 | .Rq g=>g h args
def ED(f:FuncId):FuncId:=if f<=99999 then f else f%100000
def Dp:Aa->List Aa->Option (FuncId×List Aa)
 | .func (.func f) first captured,args=>if f<=99999 then some (f,first++args++captured) else none
 |_,_=>none
abbrev Ka:=DX×List Aa×Ah
def IT.step(fn:FuncId->List Aa->IT)(rec:IT->Ah->Option Ka):IT->Ah->Option Ka
 | .ret x vs,h=>some (x,vs,h)
 | .fail,_=>none
 | .op o args k,h=>match AD o args with
  |some v=>IT.step fn rec (k v) h
  |none=>none
 | .cells n v k,h=>if v.cells.length=n then IT.step fn rec (k v.cells) h else none
 | .Gg c t e,h=>match c with
  | .bool true=>IT.step fn rec t h
  | .bool false=>IT.step fn rec e h
  |_=>none
 | .load n p k,h=>match A8 h n p with
  |some v=>IT.step fn rec (k v) h
  |none=>none
 | .store n p v k,h=>match Cv h n p v with
  |some h'=>IT.step fn rec k h'
  |none=>none
 | .alloc n v k,h=>match WY h n v with
  |some (h',p)=>IT.step fn rec (k p) h'
  |none=>none
 | .call f args k,h=>match rec (fn f args) h with
  |some (.ret,[r],h')=>IT.step fn rec (k r) h'
  |_=>none
 | .Jd g args k,h=>match Dp g args with
  |some (f,args)=>match rec (fn f args) h with
   |some (.ret,[r],h')=>IT.step fn rec (k r) h'
   |_=>none
  |none=>none
 | .B7 f args k,h=>if args.all Aa.MT then match rec (fn f args) [] with
   |some (.ret,[r],_)=>if r.MT then IT.step fn rec (k r) h else none
   |_=>none
  else none
 | .loop key init body k,h=>match IT.step fn rec (body init) h with
  |some (.normal,vs,h')=>rec (.loop key vs body k) h'
  |some (x,vs,h')=>IT.step fn rec (k x vs) h'
  |none=>none
 | .Of _ t k,h=>match IT.step fn rec t h with
  |some (x,vs,h')=>IT.step fn rec (k x vs) h'
  |none=>none
 | .same a b k,h=>if Aa.beq a b then IT.step fn rec k h else none
 | .Po k,h=>IT.step fn rec (k (.map (some h.length))) (h++[.map []])
 | .Kz m key v k,h=>match Q2 h m key v with
  |some h'=>IT.step fn rec k h'
  |none=>none
 | .Mf zero ok m key k,h=>match Pq h zero ok m key with
  |some v=>IT.step fn rec (k v) h
  |none=>none
 | .make size bytes zero len cap k,h=>match Sg h size bytes zero len cap with
  |some (h',v)=>IT.step fn rec (k v) h'
  |none=>none
 | .Li size bytes s x k,h=>match KK h size bytes s x with
  |some (h',v)=>IT.step fn rec (k v) h'
  |none=>none
 | .Fa s k,h=>match IW h s with
  |some (h',v)=>IT.step fn rec (k v) h'
  |none=>none
 | .Pk v k,h=>match KA h v with
  |some (h',v')=>IT.step fn rec (k v') h'
  |none=>none
 | .Pp off p k,h=>match Mg h off p with
  |some h'=>IT.step fn rec k h'
  |none=>none
 | .JI size bytes s x k,h=>match Gb h size bytes s x with
  |some (h',v)=>IT.step fn rec (k v) h'
  |none=>none
 | .GC size bytes s x k,h=>match Q3 h size bytes s x with
  |some v=>IT.step fn rec (k v) h
  |none=>none
 | .mem o args k,h=>match E3 o h args with
  |some (h',v)=>IT.step fn rec (k v) h'
  |none=>none
 | .wV f args k,h=>match rec (fn f args) [] with
  |some (.ret,[r],_)=>if r.MT then IT.step fn rec (k r) h else none
  |_=>none
def IT.run(fn:FuncId->List Aa->IT):Nat->IT->Ah->Option Ka
 |0=>λ_ _=>none
 |n+1=>IT.step fn (IT.run fn n)
end Go.Am
end
section
namespace Go.Am
inductive Sh where
 |val
 |Bu
 |box (n:Nat) (Bu:List Nat)
 deriving Inhabited
inductive wY where
 |Ps|heap
 deriving DecidableEq,Inhabited
structure FY where
 P:Program
 aBD:FuncId->Nat->List (Nat×Sh)
 aAh:FuncId->Nat->Option (List (Nat×Sh))
 aAi:FuncId->Nat->Option (List (Nat×Sh))
 kind:FuncId->Nat->wY
 Jl:FuncId->Bool
 aAj:FuncId->Bool
 ey:FuncId->Nat->Bool
 W9:FuncId->Nat->Bool
 og:FuncId->Bool
 oh:FuncId->List (Nat×Nat)
 Ha:Nat->Option (List Aa)
 aBE:FuncId->Option (List Aa->IT)
 alt:FuncId->FuncId->FuncId
 L8:FuncId->Bool
inductive EM where
 |pure (ws:List (Nat×Es))
 |op (p:Se) (args:List Aa) (dst:Option Nat) (Bu:Bool) (DU:Option (Nat×Aa))
 |box (n:Nat) (v:Aa) (dst:Nat)
 |closure (fn:Fn) (first captured:List Aa) (froze:List (Nat×List Aa)) (dst:Nat)
 |Ni (s off n:Nat) (v:Aa) (Bu:Bool) (DU:Option (Nat×Aa)) (ver:Nat) (cells:List Aa) (owned:List Nat)
 |load (n:Option Nat) (p:Aa) (dst:Option Nat)
 |store (n:Nat) (p v:Aa)
 |alloc (n:Nat) (v:Aa) (dst:Option Nat)
 |call (f:FuncId) (args:List Aa) (dst:Option Nat)
 |Jd (g:Aa) (args:List Aa) (dst:Option Nat)
 |B7 (f:FuncId) (args:List Aa) (dst:Option Nat)
 |Po (dst:Option Nat)
 |Kz (m k v:Aa)
 |Mf (zero:Aa) (ok:Bool) (m k:Aa) (dst:Option Nat)
 |make (size bytes:Nat) (zero:List Aa) (len cap:Aa) (dst:Option Nat)
 |Li (size bytes:Nat) (s x:Aa) (dst:Option Nat) (DU:Option (Nat×Aa))
 |JI (size bytes:Nat) (s x:Aa) (dst:Option Nat)
 |GC (size bytes:Nat) (s x:Aa) (dst:Option Nat) (DU:Option (Nat×Aa))
 |Fa (s:Aa) (dst:Option Nat)
 |WV (v:Aa) (dst:Option Nat)
 |mem (o:lR) (args:List Aa) (dst:Option Nat)
def B4(P:Program)(t:TypeId):Option Nat:=(P.info? t).map (·.size)
def Ke(P:Program)(t:TypeId):Option Nat:=(P.info? t).map (·.bytes)
def Fq(P:Program)(t:TypeId):Option (Option Nat):=
 match P.underlying t with
 |some (.struct _)|some (.array _ _)=>(B4 P t).map some
 |some _=>some none
 |none=>none
def Hb(P:Program)(t:TypeId):Option Aa:=((P.info? t).bind (·.zero)).bind K4
def Xa(rec:TypeId->Option (List FK)):List Field->Nat->Option (List FK)
 |[],_=>some []
 |f::fs,off=>if f.name≠ "_"/\f.offset=off then match rec f.type with
   |some ks=>(Xa rec fs (off+ks.length)).map (ks++·)
   |none=>none
  else none
def Pu(P:Program):Nat->TypeId->Option (List FK)
 |0,_=>none
 |d+1,t=>
  let one (k:FK):Option (List FK):=if B4 P t=some 1 then some [k] else none
  match P.underlying t with
  |some .bool=>one .b
  |some (.int _)=>one .i
  |some .string=>one .s
  |some (.struct fs)=>match Xa (Pu P d) fs.toList 0 with
   |some ks=>if B4 P t=some ks.length/\P.stoodInHeld t=false then some ks else none
   |none=>none
  |_=>none
def IB(P:Program)(s:TypeId)(f:Nat):Option (Nat×Option Nat):=
 match P.underlying s with
 |some (.struct fs)=>match fs[f]? with
  |some fd=>match B4 P fd.type,Fq P fd.type with
   |some (_+1),some sh=>some (fd.offset,sh)
   |_,_=>none
  |none=>none
 |_=>none
def Ef(C:FY)(U:BT):Operand->Option Es
 | .tmp t=>some (U.at t)
 | .const (.bool b)=>some (.O8 b)
 | .const (.slice none 0 0)=>some (.Bu .slnil)
 | .const v=>(K4 v).map .val
 | .global g=>(C.Ha g).map λcs=> .val (.CH cs)
 | .func f=>some (.val (.func (.func f) [] []))
def E4(C:FY)(U:BT)(x:Operand):Option Aa:=(Ef C U x).bind Es.Hr
def Bz(C:FY)(U:BT):List Operand->Option (List Aa)
 |[]=>some []
 |x::xs=>match E4 C U x,Bz C U xs with
  |some v,some vs=>some (v::vs)
  |_,_=>none
def oj(ops:List Oper)(d:Nat):Bool:=
 ops.any λo=>match o.op with
  | .call c=>(match c.callee with| .builtin .append=>true|_=>false)&&(match(c.args[0]?:Option Operand) with|some (.tmp t)=>t==d|_=>false)
  |_=>false
def IC:Es->Option Es
 | .val v=>some (.val v)
 | .O8 b=>some (.O8 b)
 | .Bu v=>some (.val v)
 | .Fi s o=>some (.Fi s o)
 |_=>none
def Si(x:Operand)(v:Aa):List (Nat×Es):=
 match x with
 | .tmp s=>[(s,.val v)]
 |_=>[]
def KL(C:FY)(U:BT)(x:Operand)(d:Nat)(take:Bool):Option EM:=
 match x,Ef C U x with
 | .tmp s,some (.box _ _ _)=>some (.pure [(d,.Fi s 0)])
 | .const _,some sl=>some (.pure [(d,sl)])
 |x,some (.Bu v)=>if take then some (.pure (Si x v++[(d,.Bu v)])) else(IC (.Bu v)).map λs=> .pure [(d,s)]
 |_,some s=>(IC s).map λs=> .pure [(d,s)]
 |_,none=>none
def Xb(cs:List Aa):List Nat:=(List.range cs.length).filter λi=>match cs.getD i .nilIface with| .slnil=>true|_=>false
def Nj(U:BT)(ds:List Nat):Bool:=U.all λs=>match s with| .Fi s _=> !ds.contains s|_=>true
def BT.drop(U:BT)(ds:List Nat):BT:=match ds with|[]=>U|ds=>U.map λs=>match s with| .Fi s o=>if ds.contains s then .undef else .Fi s o|s=>s
def UC(C:FY)(fid:FuncId)(t:TypeId)(v:Aa)(d:Nat):Option EM:=
 match B4 C.P t with
 |none=>none
 |some n=>if n=0 then none else match C.kind fid d with
  | .Ps=>some (.box n v d)
  | .heap=>some (.alloc n v (some d))
inductive aBF where
 |Ps (s off ver:Nat) (cells:List Aa) (Bu:List Nat)
 |ptr (p:Aa)
def Gn(C:FY)(U:BT)(x:Operand):Option aBF:=
 match x,Ef C U x with
 | .tmp s,some (.box ver cs ow)=>some (.Ps s 0 ver cs ow)
 |_,some (.Fi s o)=>match U.at s with
  | .box ver cs ow=>some (.Ps s o ver cs ow)
  |_=>none
 |_,some s=>s.Hr.map .ptr
 |_,none=>none
def Dv(U:BT):Operand->Option (Nat×Aa)
 | .tmp s=>match U.at s with
  | .Bu v=>some (s,v)
  |_=>none
 |_=>none
def Lj(C:FY)(U:BT)(x:Operand):Bool:=match Ef C U x with|some (.Bu _)=>true|_=>false
def LF(C:FY)(U:BT)(t:TypeId)(x:Operand)(d:Nat)(take:Bool):Option EM:=
 match Fq C.P t,Gn C U x with
 |some n,some (.ptr p)=>some (.load n p (some d))
 |some none,some (.Ps s o ver cs ow)=>
  if o<cs.length then
   let v:=cs.getD o .nilIface
   if ow.contains o&& !(ow.erase o).contains o&&take then some (.pure [(s,.box (ver+1) cs (ow.erase o)),(d,.Bu v)])
   else some (.pure [(d,.val v)])
  else none
 |some (some n),some (.Ps _ o _ cs _)=>if o+n<=cs.length then some (.pure [(d,.val (.agg ((cs.drop o).take n)))]) else none
 |_,_=>none
def JD(C:FY)(U:BT)(t:TypeId)(x y:Operand):Option EM:=
 match B4 C.P t,Fq C.P t,Gn C U x,E4 C U y with
 |some (n+1),_,some (.ptr p),some v=>some (.store (n+1) p v)
 |some (n+1),some sh,some (.Ps s o ver cs ow),some v=>
  if o+(n+1)<=cs.length then
   let Bu:=sh.isNone&&Lj C U y
   some (.Ni s o (n+1) v Bu (if Bu then Dv U y else none) ver cs ow)
  else none
 |_,_,_,_=>none
def TN(P:Program)(t:TypeId)(neg:Bool)(u:TypeDesc):Option Se:=
 match u with
 | .bool=>some (.beq neg)
 | .struct _=>if P.eqGuardType P.depth t=false then(Pu P 20 t).map (.geq neg) else none
 | .pointer e=>if(B4 P e).getD 0=0 then none else some (.peq neg)
 | .slice _=>some (.Ga neg .sl)
 | .func _ _ _=>some (.Ga neg .fn)
 | .map _ _=>some (.Ga neg .mp)
 |_=>none
def Qj(P:Program)(op:BinOp)(t:TypeId):Option Se:=
 match P.underlying t with
 |some (.int _)=>some (.int op)
 |some .string=>some (.str op)
 |some u=>match op with
  | .eql=>TN P t false u
  | .neq=>TN P t true u
  |_=>none
 |none=>none
def TO(p:Se)(dst:Option Nat):Option (List Aa)->Option EM
 |some args=>some (.op p args dst false none)
 |none=>none
def Kf(P:Program)(t:TypeId):List (Nat×Operand)->Option (List (Nat×Nat))
 |[]=>some []
 |(i,_)::rest=>match P.underlying t with
  |some (.struct fs)=>match fs[i]? with
   |some f=>match B4 P f.type,Kf P t rest with
    |some n,some r=>some ((f.offset,n)::r)
    |_,_=>none
   |none=>none
  |some (.array len e)=>if i<len then match B4 P e,Kf P t rest with
    |some n,some r=>some ((i*n,n)::r)
    |_,_=>none
   else none
  |_=>none
def Mh(P:Program)(t:TypeId):Bool:=
 match P.info? t with
 |some i=>match i.zero with
  |some z=>z.cells.size==i.size
  |none=>false
 |none=>false
def V8(P:Program)(t:TypeId):Bool:=
 match P.underlying t with
 |some (.struct fs)=>fs.toList.all λf=>(B4 P f.type).isSome
 |some (.array _ e)=>(B4 P e).isSome
 |_=>false
def TP(o:lR)(dst:Option Nat):Option (List Aa)->Option EM
 |some args=>some (.mem o args dst)
 |none=>none
def Rr(C:FY)(fid:FuncId)(U:BT)(c:Call)(dst:Option Nat):Option EM:=
 match c.callee with
 | .builtin .len=>match c.argTypes[0]? with
  |some t=>match C.P.underlying t with
   |some .string=>TO (.len true) dst (Bz C U c.args.toList)
   |some (.slice _)=>TO (.len false) dst (Bz C U c.args.toList)
   |_=>none
  |none=>none
 | .builtin .append=>match c.argTypes[0]?,c.argTypes[1]?,c.args.toList with
  |some t,some t',[s,x]=>match C.P.underlying t,C.P.underlying t' with
   |some (.slice e),some (.slice _)|some (.slice e),some .string=>match B4 C.P e,Ke C.P e with
    |some (n+1),some (b+1)=>if Mh C.P e then match Bz C U [s,x] with
      |some [v,u]=>if Lj C U s then
        (if(dst.map (C.ey fid)).getD false then some (.Li (n+1) (b+1) v u dst (Dv U s))
        else if(dst.map (C.W9 fid)).getD false then some (.GC (n+1) (b+1) v u dst (Dv U s))
        else some (.op (.append (n+1) (b+1)) [v,u] dst true (Dv U s)))
       else if(dst.map (C.ey fid)).getD false then some (.JI (n+1) (b+1) v u dst) else none
      |_=>none
     else none
    |_,_=>none
   |_,_=>none
  |_,_,_=>none
 | .builtin .copy=>match c.argTypes[0]?,c.argTypes[1]?,c.args.toList with
  |some t,some t',[s,x]=>match C.P.underlying t,C.P.underlying t' with
   |some (.slice e),some (.slice _)|some (.slice e),some .string=>match B4 C.P e with
    |some (n+1)=>TP (.copy (n+1)) dst (Bz C U [s,x])
    |_=>none
   |_,_=>none
  |_,_,_=>none
 | .builtin .clear=>match c.argTypes[0]?,c.args.toList with
  |some t,[s]=>match C.P.underlying t with
   |some (.slice e)=>match B4 C.P e,Hb C.P e with
    |some (n+1),some z=>TP (.clear (n+1) z.cells) dst (Bz C U [s])
    |_,_=>none
   |_=>none
  |_,_=>none
 | .builtin .max=>if c.args.size=2 then TO (.LB true) dst (Bz C U c.args.toList) else none
 | .builtin .min=>if c.args.size=2 then TO (.LB false) dst (Bz C U c.args.toList) else none
 | .value (.func f)=>if C.L8 f then(match c.args.toList with
  |[s,i,v]=>if Lj C U v then TP .od dst (Bz C U [s,i,v]) else none
  |_=>none) else if ED (C.alt fid f)=f then(Bz C U c.args.toList).map λargs=>if C.aAj (C.alt fid f) then .B7 (C.alt fid f) args dst else .call (C.alt fid f) args dst else none
 | .value g=>match E4 C U g,Bz C U c.args.toList with
  |some g,some args=>some (.Jd g args dst)
  |_,_=>none
 |_=>none
def Xc(C:FY)(src dst:TypeId):Option (Option Se):=
 match C.P.underlying src,C.P.underlying dst with
 |some (.int _),some (.int k)=>some (some (.conv k))
 |some (.int _),some .string=>some (some .i2s)
 |some .string,some .string=>some none
 |some (.slice e),some .string=>match C.P.underlying e with
  |some (.int .u8)=>some (some .WV)
  |_=>none
 |some .string,some (.slice e)=>match C.P.underlying e,B4 C.P e,Ke C.P e with
  |some (.int .u8),some 1,some 1=>some (some .s2b)
  |_,_,_=>none
 |_,_=>none
def Gp(C:FY)(U:BT):List Operand->Option (List Aa×List (Nat×List Aa))
 |[]=>some ([],[])
 |x::xs=>match Gp C U xs with
  |none=>none
  |some (vs,fz)=>match x,Ef C U x with
   | .tmp s,some (.box _ cs _)=>if(fz.map (·.1)).contains s then none else some (.CH cs::vs,(s,cs)::fz)
   |_,some sl=>match sl.Hr with
    |some v=>some (v::vs,fz)
    |none=>none
   |_,none=>none
def Gq(C:FY)(fid:FuncId)(ops:List Oper)(U:BT)(o:Oper):Option EM:=
 match o.op with
 | .move x=>match o.dst with
  |some d=>KL C U x d (oj ops d)
  |none=>none
 | .assign x=>match o.dst with
  |some d=>KL C U x d true
  |none=>none
 | .pick c a b=>match Ef C U c,o.dst with
  |some (.O8 true),some d=>KL C U a d false
  |some (.O8 false),some d=>KL C U b d false
  |_,dst=>TO .pick dst (Bz C U [c,a,b])
 | .alloc t=>match o.dst,Hb C.P t with
  |some d,some z=>match C.kind fid d with
   | .Ps=>if B4 C.P t=some z.cells.length/\z.cells≠[] then some (.pure [(d,.box 0 z.cells (Xb z.cells))]) else none
   |_=>UC C fid t z d
  |_,_=>none
 | .box t x=>match o.dst,E4 C U x with
  |some d,some v=>UC C fid t v d
  |_,_=>none
 | .build t parts=>match Hb C.P t,Kf C.P t parts.toList with
  |some z,some ps=>if V8 C.P t then TO (.Co z.cells ps) o.dst (Bz C U (parts.toList.map (·.2))) else none
  |_,_=>none
 | .buildSlice t len parts=>match C.P.underlying t with
  |some (.slice e)=>match B4 C.P e with
   |some (n+1)=>if parts.toList.map (·.1)=List.range len/\Mh C.P e=true then if len=0/\(o.dst.map (C.ey fid)).getD false=true then some (.op (.Gf (n+1)) [] o.dst true none) else(Bz C U (parts.toList.map (·.2))).map λargs=> .op (.Dm (n+1)) args o.dst true none else none
   |_=>none
  |_=>none
 | .load t x=>match o.dst with
  |some d=>LF C U t x d (oj ops d)
  |none=>none
 | .store t x y=>match o.dst with
  |none=>JD C U t x y
  |some _=>none
 | .nilCheck x=>match x,Ef C U x,o.dst with
  | .tmp s,some (.box _ _ _),some d=>some (.pure [(d,.Fi s 0)])
  |_,some (.Fi s k),some d=>some (.pure [(d,.Fi s k)])
  |x,_,dst=>TO .JH dst (Bz C U [x])
 | .binOp op t x y _=>match Qj C.P op t with
  |some p=>TO p o.dst (Bz C U [x,y])
  |none=>none
 | .unOp op _ x=>TO (.un op) o.dst (Bz C U [x])
 | .convert src dst x=>match Xc C src dst with
  |some (some .WV)=>(E4 C U x).map λv=> .WV v o.dst
  |some (some .s2b)=>if(o.dst.map (C.ey fid)).getD false then(E4 C U x).map λv=> .Fa v o.dst else TO .s2b o.dst (Bz C U [x])
  |some (some p)=>TO p o.dst (Bz C U [x])
  |_=>none
 | .makeFunc fn first captured=>match o.dst,Bz C U first.toList,Gp C U captured.toList with
  |some d,some a,some (b,fz)=>some (.closure fn a b fz d)
  |_,_,_=>none
 | .makeMap _ none=>some (.Po o.dst)
 | .makeSlice t l c=>match C.P.underlying t with
  |some (.slice e)=>match B4 C.P e,Ke C.P e,Hb C.P e,E4 C U l,E4 C U c with
   |some (n+1),some (b+1),some z,some l,some c=>some (.make (n+1) (b+1) z.cells l c o.dst)
   |_,_,_,_,_=>none
  |_=>none
 | .insert t m k v| .mapUpdate t m k v=>match C.P.underlying t with
  |some (.map kt _)=>match o.dst,C.P.underlying kt,Bz C U [m,k,v] with
   |none,some .string,some [m,k,v]=>some (.Kz m k v)
   |none,some (.int .i64),some [m,k,v]=>some (.mem .L_ [m,k,v] none)
   |_,_,_=>none
  |_=>none
 | .lookup t m k ok=>match C.P.underlying t with
  |some (.map kt e)=>match C.P.underlying kt,Hb C.P e,Bz C U [m,k] with
   |some .string,some z,some [m,k]=>some (.Mf z ok m k o.dst)
   |some (.int .i64),some z,some [m,k]=>some (.mem (.ob z ok) [m,k] o.dst)
   |_,_,_=>none
  |_=>none
 | .slice t x (some lo) (some hi) (some mx)=>match C.P.underlying t with
  |some (.slice e)=>match B4 C.P e with
   |some (n+1)=>TP (.rB (n+1)) o.dst (Bz C U [x,lo,hi,mx])
   |_=>none
  |_=>none
 | .makeInterface t x=>match C.P.underlying t with
  |some (.interface _)=>none
  |some _=>TP (.aFp t) o.dst (Bz C U [x])
  |none=>none
 | .mapEntry t m k=>match C.P.underlying t with
  |some (.map kt e)=>match C.P.underlying kt,Hb C.P e with
   |some (.int .i64),some z=>TP (.TL z) o.dst (Bz C U [m,k])
   |some .string,some z=>TP (.rC z) o.dst (Bz C U [m,k])
   |_,_=>none
  |_=>none
 | .entryStore _ m s v=>match o.dst with
  |none=>TP .Pm none (Bz C U [m,s,v])
  |some _=>none
 | .slice t x lo hi none=>match C.P.underlying t with
  |some .string=>TO (.K0 0 true lo.isSome hi.isSome) o.dst (Bz C U (x::(lo.toList++hi.toList)))
  |some (.slice e)=>match B4 C.P e with
   |some (n+1)=>if(o.dst.map (C.ey fid)).getD false then TP (.et (n+1) lo.isSome hi.isSome) o.dst (Bz C U (x::(lo.toList++hi.toList)))
    else TO (.K0 (n+1) false lo.isSome hi.isSome) o.dst (Bz C U (x::(lo.toList++hi.toList)))
   |_=>none
  |_=>none
 | .fieldAddr t x f=>match IB C.P t f,o.dst with
  |some (off,_),some d=>match x,Ef C U x with
   | .tmp s,some (.box _ _ _)=>some (.pure [(d,.Fi s off)])
   |_,some (.Fi s k)=>some (.pure [(d,.Fi s (k+off))])
   |x,_=>TO (.Lh off) (some d) (Bz C U [x])
  |_,_=>none
 | .field t x f=>match IB C.P t f with
  |some (off,sh)=>TO (.part off sh) o.dst (Bz C U [x])
  |none=>none
 | .indexAddr t x i=>match C.P.underlying t with
  |some (.slice e)=>match B4 C.P e with
   |some (n+1)=>TO (.Fl (n+1)) o.dst (Bz C U [x,i])
   |_=>none
  |some (.array len e)=>match B4 C.P e with
   |some (n+1)=>if len<=1 then none else TO (.UB len (n+1)) o.dst (Bz C U [x,i])
   |_=>none
  |_=>none
 | .index t x i=>match C.P.underlying t with
  |some .string=>TO .Zo o.dst (Bz C U [x,i])
  |some (.array len e)=>match B4 C.P e,Fq C.P e with
   |some (n+1),some sh=>TO (.aBB len (n+1) sh) o.dst (Bz C U [x,i])
   |_,_=>none
  |_=>none
 | .extract x i=>TO (.ext i) o.dst (Bz C U [x])
 | .call c=>Rr C fid U c o.dst
 |_=>none
def BT.El(U:BT):List (Nat×Es)->BT
 |[]=>U
 |(s,x)::ws=>BT.El (U.set s x) ws
def BT.put(U:BT)(dst:Option Nat)(x:Es):BT:=
 match dst with
 |some d=>U.set d x
 |none=>U
def BT.DU(U:BT):Option (Nat×Aa)->BT
 |some (s,v)=>U.set s (.val v)
 |none=>U
def Xd(n:Nat)(cs:List Aa):List Aa:=(List.range n).map λi=>cs.getD i .nilIface
def Xe(cs:List Aa)(off n:Nat)(vs:List Aa):List Aa:=cs.take off++vs++cs.drop (off+n)
def Sj(owned:List Nat)(off n:Nat)(Bu:Bool):List Nat:=
 let rest:=owned.filter λo=> !(off<=o&&o<off+n)
 if Bu then off::rest else rest
def EM.Mi(C:FY)(U:BT)(K:BT->IT):EM->IT
 | .pure ws=>K (U.El ws)
 | .op p args dst Bu e=> .op p args λv=>K ((U.DU e).put dst (if Bu then .Bu v else .val v))
 | .box n v d=> .cells n v λcs=>K (U.set d (.box 0 (Xd n cs) []))
 | .closure fn a b fz d=>K ((U.El (fz.map λ(s,cs)=>(s,.val (.CH cs)))).set d (.val (.func fn a b)))
 | .Ni s off n v Bu e ver cells owned=> .cells n v λvs=>K ((U.DU e).set s (.box (ver+1) (Xe cells off n (Xd n vs)) (Sj owned off n Bu)))
 | .load n p dst=> .load n p λv=>K (U.put dst (.val v))
 | .store n p v=> .store n p v (K U)
 | .alloc n v dst=> .alloc n v λp=>K (U.put dst (.val p))
 | .call f args dst=> .call f args λr=>K (U.put dst (if C.Jl f then .Bu r else .val r))
 | .Jd g args dst=> .Jd g args λr=>K (U.put dst (.val r))
 | .B7 f args dst=> .B7 f args λr=>K (U.put dst (.val r))
 | .Po dst=> .Po λm=>K (U.put dst (.val m))
 | .Kz m k v=> .Kz m k v (K U)
 | .Mf z ok m k dst=> .Mf z ok m k λv=>K (U.put dst (.val v))
 | .make z b zero l c dst=> .make z b zero l c λv=>K (U.put dst (.val v))
 | .Li z b s x dst e=> .Li z b s x λv=>K ((U.DU e).put dst (.val v))
 | .JI z b s x dst=> .JI z b s x λv=>K (U.put dst (.val v))
 | .GC z b s x dst e=> .GC z b s x λv=>K ((U.DU e).put dst (.Bu v))
 | .Fa s dst=> .Fa s λv=>K (U.put dst (.val v))
 | .WV v dst=> .Pk v λv=> .op .WV [v] λu=>K (U.put dst (.val u))
 | .mem o args dst=> .mem o args λv=>K (U.put dst (if o.aFq then .undef else .val v))
def EM.news:EM->List Nat
 | .pure ws=>ws.filterMap λ(s,x)=>match x with| .box 0 _ _=>some s|_=>none
 | .box _ _ d=>[d]
 | .closure _ _ _ fz _=>fz.map (·.1)
 |_=>[]
inductive aFs where
 |Nz (run:Bool)
 |ask (rE:Nat) (v:Aa) (want:Bool)
 |bad
def IY(ops:List Oper)(U:BT)(o:Oper):aFs:=
 match o.guard with
 |none=> .Nz true
 |some (j,want)=>match(ops[j]?).bind (·.dst) with
  |some s=>match U.at s with
   | .O8 b=> .Nz (b==want)
   | .val v=> .ask s v want
   | .skip=> .Nz false
   |_=> .bad
  |none=> .bad
def om(C:FY)(fid:FuncId)(ops:List Oper)(U:BT)(o:Oper)(K:BT->IT):IT:=
 match Gq C fid ops U o with
 |some r=>r.Mi C (U.drop r.news) K
 |none=> .fail
def TQ(C:FY)(fid:FuncId)(ops:List Oper)(U:BT)(o:Oper)(K:BT->IT):IT:=
 match IY ops U o with
 | .Nz true=>om C fid ops U o K
 | .Nz false=>K (U.put o.dst .skip)
 | .ask s v want=>
  let t:=if want then om C fid ops (U.set s (.O8 true)) o K else K (BT.put (U.set s (.O8 true)) o.dst .skip)
  let e:=if want then K (BT.put (U.set s (.O8 false)) o.dst .skip) else om C fid ops (U.set s (.O8 false)) o K
  .Gg v t e
 | .bad=> .fail
def TR:FuncId->Bool
 |_=>false
def Sk(C:FY)(U:BT)(o:Oper):List (Nat×List Aa):=
 match o.op with
 | .call c=>(match c.callee with
  | .value (.func f)=>if TR f then(match Gp C U c.args.toList with|some (_,fz)=>fz|none=>[]) else[]
  |_=>[])
 |_=>[]
def aBH(C:FY)(U:BT)(o:Oper):BT:=(U.drop ((Sk C U o).map (·.1))).El ((Sk C U o).map λ(s,cs)=>(s,.val (.CH cs)))
def wZ(C:FY)(fid:FuncId)(ops:List Oper):List Oper->BT->(BT->IT)->IT
 |[],U,K=>K U
 |o::rest,U,K=>TQ C fid ops (aBH C U o) o λU=>wZ C fid ops rest U K
end Go.Am
end
section
namespace Go.Am
def Oper.Vu(o:Oper):List Nat:=o.after.toList.filterMap λe=>if Region.binds .any e then some e.on else none
def bit(i:Nat):Nat:=2^i
def Lk(D0:List Nat):List Oper->List Nat
 |[]=>D0
 |o::rest=>Lk (D0++[(Oper.Vu o).foldl (λm e=>m|||bit e|||D0.getD e 0) 0]) rest
def Xf(ops:List Oper):List Nat:=Lk [] ops
def Et(an:List Nat)(i j:Nat):Bool:=(an.getD j 0).testBit i
def aAk(o:Oper):Bool:=
 match o.op with
 | .call c=>(match c.callee with| .builtin .copy| .builtin .clear=>true| .builtin _=>false|_=>true)
 | .store _ _ _| .insert _ _ _ _| .mapUpdate _ _ _ _| .makeMap _ _| .makeSlice _ _ _| .mapEntry _ _ _| .entryStore _ _ _ _=>true
 |_=>false
def Xg(all:List Oper)(D0:List Nat):List Oper->List Nat
 |[]=>D0
 |o::rest=>Xg all (D0++[(Oper.Vu o).foldl (λm e=>Nat.max m (D0.getD e 0+(match all[e]? with|some x=>if aAk x then 1 else 0|none=>0))) 0]) rest
def M_(ops:List Oper):List Nat:=
 let st:=Xg ops [] ops
 let idx:=List.range ops.length
 let R6:=λi=>match ops[i]? with|some o=>aAk o|none=>false
 (List.range (ops.length+1)).flatMap λs=>(idx.filter λi=>st.getD i 0==s&& !R6 i)++(idx.filter λi=>st.getD i 0==s&&R6 i)
structure FP where
 rs:List Nat
 wf:List Nat
 hl:Bool
 R6:Bool
 news:List Nat
 lr:List Nat
 TS:Bool
 deriving Inhabited
def Kg(xs:List Operand):List Nat:=xs.filterMap λ| .tmp t=>some t|_=>none
def Og(C:FY)(U:BT)(x:Operand):Option Nat:=
 match Gn C U x with
 |some (.Ps s _ _ _ _)=>some s
 |_=>none
def Ic(C:FY)(U:BT)(o:Oper):List Nat:=
 match o.op with
 | .load _ x=>(Og C U x).toList
 | .store _ x _=>(Og C U x).toList
 | .makeFunc _ _ captured=>Kg captured.toList
 |_=>[]
def EM.wf:EM->List Nat
 | .pure ws=>ws.map (·.1)
 | .op _ _ dst _ a=>dst.toList++(a.map (·.1)).toList
 | .box _ _ d=>[d]
 | .closure _ _ _ fz d=>d::fz.map (·.1)
 | .Ni s _ _ _ _ a _ _ _=>s::(a.map (·.1)).toList
 | .load _ _ dst| .alloc _ _ dst| .call _ _ dst| .Jd _ _ dst| .B7 _ _ dst| .Po dst| .Mf _ _ _ _ dst| .make _ _ _ _ _ dst| .Fa _ dst| .WV _ dst| .JI _ _ _ _ dst| .mem _ _ dst=>dst.toList
 | .Li _ _ _ _ dst a| .GC _ _ _ _ dst a=>dst.toList++(a.map (·.1)).toList
 | .store _ _ _| .Kz _ _ _=>[]
def EM.hl:EM->Bool
 | .load _ _ _| .Mf _ _ _ _ _=>true
 |_=>false
def EM.R6:EM->Bool
 | .store _ _ _| .alloc _ _ _| .call _ _ _| .Jd _ _ _| .Po _| .Kz _ _ _| .make _ _ _ _ _ _| .Li _ _ _ _ _ _| .Fa _ _| .WV _ _| .JI _ _ _ _ _| .GC _ _ _ _ _ _| .mem _ _ _=>true
 |_=>false
def FC(ops:List Oper)(o:Oper):List Nat:=
 match o.guard with
 |none=>[]
 |some (j,_)=>((ops[j]?).bind (·.dst)).toList
def V9(xs:List Es):List Nat:=xs.filterMap λ| .Fi t _=>some t|_=>none
def EM.xA:EM->List Nat
 | .pure ws=>V9 (ws.map (·.2))
 |_=>[]
def EM.TS(U:BT)(r:EM):Bool:=
 Nj U r.news&&match r with
  | .load _ _ (some d)=>decide (d<U.length)
  | .load _ _ none| .Mf _ _ _ _ _| .closure _ _ _ (_::_) _=>false
  |_=>true
def Vv(C:FY)(ops:List Oper)(U:BT)(o:Oper)(r:Option EM):FP:=
 match r with
 |none=>{rs:=FC ops o,wf:=o.dst.toList,hl:=false,R6:=false,news:=[],lr:=V9 (o.dst.toList.map U.at),TS:=true}
 |some r=>{rs:=FC ops o++Kg o.op.operands.toList++Ic C U o,wf:=r.wf++o.dst.toList,hl:=r.hl,R6:=r.R6,news:=r.news,lr:=V9 ((r.wf++o.dst.toList).map U.at)++r.xA,TS:=r.TS U}
def UD(a b:List Nat):Bool:=a.any λx=>b.contains x
def FP.apart(x y:FP):Bool:= !UD x.wf (y.rs++y.wf)&& !UD y.wf x.rs&& !UD x.lr y.news&& !UD y.lr x.news
def Rs(x y:FP):Bool:=x.TS&&y.TS&&x.apart y&& !(x.R6&&y.R6)&& !(x.R6&&y.hl)
def Xh(n:Nat)(an:List Nat)(a:List (Nat×FP)):Bool:=
 go a&&(List.range n).all (λi=>(a.map (·.1)).contains i)
where
 go:List (Nat×FP)->Bool
  |[]=>true
  |(i,f)::rest=>rest.all (λ(j,g)=>i != j&& !Et an j i&&(Et an i j||Rs f g))&&go rest
structure KG where
 idx:Nat
 n:Option Nat
 p:Aa
 v:Aa
def Sl(an:List Nat)(i:Nat):List KG->IT->IT
 |[],t=>t
 |f::fs,t=>if Et an f.idx i then Sl an i fs t else .load f.n f.p λv=> .same f.v v (Sl an i fs t)
def MY(i:Nat)(r:EM)(U:BT)(fl:List KG):List KG:=
 match r with
 | .load n p (some d)=>match U.at d with
  | .val v=>{idx:=i,n,p,v}::fl
  |_=>fl
 |_=>fl
def Sn(ops:List Oper)(i:Nat):Bool:=ops.any λo=>match o.guard with|some (j,_)=>j==i|none=>false
def xB(d:Option Nat)(U:BT)(K:BT->IT):IT:=
 match d with
 |none=>K U
 |some d=>match U.at d with
  | .val v=> .Gg v (K (U.set d (.O8 true))) (K (U.set d (.O8 false)))
  |_=>K U
def Rt(C:FY)(fid:FuncId)(ops:List Oper)(an:List Nat):List Nat->List (Nat×FP)->List KG->BT->(BT->IT)->IT
 |[],a,_,U,K=>if Xh ops.length an a.reverse then K U else .fail
 |i::rest,a,fl,U,K=>
  match ops[i]? with
  |none=> .fail
  |some o=>match IY ops U o with
   | .Nz true=>match Gq C fid ops U o with
    |none=> .fail
    |some r=>r.Mi C (U.drop r.news) λc=>
     let next:=xB (if Sn ops i then o.dst else none) c λb=>Rt C fid ops an rest ((i,Vv C ops U o (some r))::a) (MY i r c fl) b K
     if r.R6 then Sl an i fl next else next
   | .Nz false=>Rt C fid ops an rest ((i,Vv C ops U o none)::a) fl (U.put o.dst .skip) K
   |_=> .fail
def Eu(ops:List Oper)(o:Oper):List Nat:=
 o.dst.toList++match o.op with
  | .move (.tmp s)=>(match o.dst with|some d=>if oj ops d then[s] else[]|none=>[])
  | .assign (.tmp s)=>[s]
  | .store _ _ (.tmp s)=>[s]
  | .call c=>(match c.callee with| .builtin .append=>Kg c.args.toList| .value (.func f)=>if TR f then Kg c.args.toList else[]|_=>[])
  | .makeFunc _ _ captured=>Kg captured.toList
  |_=>[]
def Di:Code->List Nat
 | .region _ ops _=>ops.toList.flatMap (Eu ops.toList)
 | .seq a b=>Di a++Di b
 | .cond _ a b=>Di a++Di b
 | .block _ b=>Di b
 | .loop b=>Di b
 | .scope b=>Di b
 |_=>[]
def Cg:Code->List Nat
 | .region _ ops _=>ops.toList.flatMap (FC ops.toList)
 | .seq a b=>Cg a++Cg b
 | .cond (.tmp s) a b=>s::(Cg a++Cg b)
 | .cond _ a b=>Cg a++Cg b
 | .block _ b=>Cg b
 | .loop b=>Cg b
 | .scope b=>Cg b
 |_=>[]
def BT.clear(U:BT):List Nat->BT
 |[]=>U
 |s::ss=>BT.clear (U.set s .undef) ss
def GM:Code->Option Nat
 | .region id _ _=>some id
 | .seq a b=>(GM a).orElse λ_=>GM b
 | .cond _ a b=>(GM a).orElse λ_=>GM b
 | .block _ b| .loop b| .scope b=>GM b
 |_=>none
def Xi(U:BT):List (Nat×Sh)->Option (List Aa)
 |[]=>some []
 |(s,sh)::l=>
  let v:=match sh,U.at s with
   | .val,x=>x.Hr
   | .Bu,.Bu v=>some v
   | .box n ow,.box _ cs Ob=>if cs.length=n/\ow.all (Ob.contains ·) then some (.agg cs) else none
   |_,_=>none
  match v,Xi U l with
  |some v,some vs=>some (v::vs)
  |_,_=>none
def ZY:Es->Nat
 | .box ver _ _=>ver
 |_=>0
def JJ(vs:List Aa):List (Nat×Sh)->Nat->BT->(BT->IT)->IT
 |[],_,U,K=>K U
 |(s,.val)::l,i,U,K=>JJ vs l (i+1) (U.set s (.val (vs.getD i .nilIface))) K
 |(s,.Bu)::l,i,U,K=>JJ vs l (i+1) (U.set s (.Bu (vs.getD i .nilIface))) K
 |(s,.box n ow)::l,i,U,K=> .cells n (vs.getD i .nilIface) λcs=>JJ vs l (i+1) (U.set s (.box (ZY (U.at s)+1) (Xd n cs) ow)) K
def rF(U:BT)(a:BT)(l:List (Nat×Sh)):Bool:=
 (List.range U.length).all λs=>match U.at s with
  | .box ver _ _=>(l.map (·.1)).contains s||(match a.at s with| .box Gr _ _=>Gr==ver|_=>false)
  | .Fi _ _=>(l.map (·.1)).contains s||(match a.at s with| .Fi _ _=>true|_=>false)
  |_=>true
def Hc(b:BT)(l:List (Nat×Sh))(x:DX)(a:BT):IT:=
 if rF b a l then match Xi a l with
  |some vs=> .ret x vs
  |none=> .fail
 else .fail
def oq(l:List (Nat×Sh))(ws:List Nat)(U:BT):Bool:=l.all λ(s,_)=>ws.contains s||(match U.at s with| .box _ _ _=>true|_=>false)
def cH(ops:List Oper):Bool:=ops.zipIdx.all λ(o,i)=>(Oper.Vu o).all λe=>decide (e<i)
def So(C:FY)(fid:FuncId)(ops:List Oper)(draw:Bool)(U:BT)(K:BT->IT):IT:=
 if draw then(if cH ops then Rt C fid ops (Xf ops) (M_ ops) [] [] U K else .fail) else wZ C fid ops ops U K
def cI(key:Nat)(U:BT)(ws:List Nat)(l:List (Nat×Sh))(t:(DX->BT->IT)->IT)(K:DX->BT->IT):IT:=
 let b:=U.clear ws
 if oq l ws U then .Of key (t λx a=>Hc b l x a) λx vs=>JJ vs l 0 b λa=>K x a else .fail
def aAl(K:DX->BT->IT):DX->BT->IT
 | .normal,_=> .fail
 | .exit i,U=>K (.exit i) U
 | .ret,U=>K .ret U
def Gs(C:FY)(fid:FuncId):Code->BT->(DX->BT->IT)->IT
 | .skip,U,K=>K .normal U
 | .region id ops draw,U,K=>match C.aAi fid id with
  |none=>So C fid ops.toList draw U (K .normal)
  |some l=>cI (200000+id) U (ops.toList.flatMap (Eu ops.toList)++ops.toList.flatMap (FC ops.toList)) l (λK=>So C fid ops.toList draw U (K .normal)) K
 | .seq a b,U,K=>Gs C fid a U λx d=>match x with
  | .normal=>Gs C fid b d K
  | .exit i=>K (.exit i) d
  | .ret=>K .ret d
 | .cond c a b,U,K=>match c,Ef C U c with
  |_,some (.O8 true)=>Gs C fid a U K
  |_,some (.O8 false)=>Gs C fid b U K
  | .tmp s,some (.val v)=>match C.aAh fid s with
   |none=> .Gg v (Gs C fid a (U.set s (.O8 true)) K) (Gs C fid b (U.set s (.O8 false)) K)
   |some l=>cI (100000+s) U (s::(Di a++Di b++Cg a++Cg b)) l (λK=> .Gg v (Gs C fid a (U.set s (.O8 true)) K) (Gs C fid b (U.set s (.O8 false)) K)) K
  |_,_=> .fail
 | .block id b,U,K=>Gs C fid b U λx d=>match x with
  | .normal=>K .normal d
  | .exit i=>if i=id then K .normal d else K (.exit i) d
  | .ret=>K .ret d
 | .loop b,U,K=>
  let l:=C.aBD fid ((GM b).getD 0)
  let ws:=Di b++Cg b
  let f:=U.clear ws
  if oq l ws U then match Xi U l with
   |none=> .fail
   |some init=> .loop ((GM b).getD 0) init (λvs=>JJ vs l 0 f λe=>Gs C fid b e λx d=>Hc f l x d) λx vs=>JJ vs l 0 f λd=>aAl K x d
  else .fail
 | .exit id,U,K=>K (.exit id) U
 | .ret,U,K=>K .ret U
 | .scope b,U,K=>Gs C fid b U K
 | .label _,U,K=>K .normal U
 |_,_,_=> .fail
def GI(C:FY)(U:BT):List ResultVar->List Aa->(List Aa->IT)->IT
 |[],D0,K=>K D0.reverse
 | .tmp t::rs,D0,K=>match(U.at t).Hr with
  |some v=>GI C U rs (v::D0) K
  |none=> .fail
 | .cell a t::rs,D0,K=>match Fq C.P t,Gn C U (.tmp a) with
  |some none,some (.Ps _ o _ cs _)=>if o<cs.length then GI C U rs (cs.getD o .nilIface::D0) K else .fail
  |some (some n),some (.Ps _ o _ cs _)=>if o+n<=cs.length then GI C U rs (.agg ((cs.drop o).take n)::D0) K else .fail
  |some n,some (.ptr p)=> .load n p λv=>GI C U rs (v::D0) K
  |_,_=> .fail
def Qk(U:BT):List ResultVar->Bool
 |[.tmp t]=>match U.at t with| .Bu _=>true|_=>false
 |_=>false
def xC(C:FY)(U:BT):List (Nat×Nat)->IT->IT
 |[],t=>t
 |(s,off)::l,t=>match(U.at s).Hr with
  |some p=> .Pp off p (xC C U l t)
  |none=> .fail
def Pv:List Aa->List Aa->(List Aa->IT)->IT
 |[],D0,K=>K D0.reverse
 |v::vs,D0,K=> .Pk v λv=>Pv vs (v::D0) K
def UE:List Aa->IT
 |[v]=> .ret .ret [v]
 |vs=> .ret .ret [.tuple vs]
def lV(C:FY)(fid:FuncId)(fn:Func)(U:BT):IT:=
 if C.Jl fid&& !Qk U fn.results.toList then .fail
 else xC C U (C.oh fid) (GI C U fn.results.toList [] λvs=>if C.og fid then Pv vs [] UE else UE vs)
def ot(C:FY)(fid:FuncId)(fn:Func)(args:List Aa):IT:=
 match fn.body with
 |none=> .fail
 |some c=>Gs C fid c (args.map .val++List.replicate (fn.ntmps-args.length) .undef) λx U=>match x with
  | .normal=>lV C fid fn U
  | .exit _=> .fail
  | .ret=>lV C fid fn U
def aFt(C:FY)(fid:FuncId)(args:List Aa):IT:=
 match C.P.funcs[ED fid]? with
 |some fn=>if fn.name== "runtime.NumGoroutine" then .fail else ot C fid fn args
 |none=> .fail
def B9(C:FY)(fid:FuncId)(args:List Aa):IT:=
 match C.aBE fid with
 |some p=>p args
 |none=>aFt C fid args
abbrev g(l:List Aa)(i:Nat):Aa:=l.getD i .nilIface
abbrev I(n:Int):Aa:= .int .i64 n
abbrev S(s:Ai):Aa:= .str s
abbrev tt:Aa:= .bool true
abbrev ff:Aa:= .bool false
abbrev FY.run(C:FY):Nat->IT->Ah->Option Ka:=IT.run (B9 C)
end Go.Am
end
end
section
namespace Go.Am
def IT.JS{fn:FuncId->List Aa->IT}{rec aFu:IT->Ah->Option Ka}(hr:∀t h r,rec t h=some r->aFu t h=some r):
  ∀(t:IT) (h:Ah) (r:Ka),IT.step fn rec t h=some r->IT.step fn aFu t h=some r:=by
 intro t;induction t with
 |ret x vs=>intro h r d;simpa[IT.step] using d
 |fail=>intro h r d;simp[IT.step] at d
 |op o args k ih=>
  intro h r d;simp only[IT.step] at d⊢;split at d;.exact ih _ _ _ d
  .cases d
 |cells n v k ih=>
  intro h r d;simp only[IT.step] at d⊢;split at d;.rename_i hc;rw[Af hc];exact ih _ _ _ d
  .cases d
 |Gg c t e i q=>
  intro h r d;simp only[IT.step] at d⊢;split at d;.exact i _ _ d
  .exact q _ _ d
  .cases d
 |load n p k ih=>
  intro h r d;simp only[IT.step] at d⊢;split at d;.exact ih _ _ _ d
  .cases d
 |store n p v k ih=>
  intro h r d;simp only[IT.step] at d⊢;split at d;.exact ih _ _ d
  .cases d
 |alloc n v k ih=>
  intro h r d;simp only[IT.step] at d⊢;split at d;.exact ih _ _ _ d
  .cases d
 |call f args k ih=>
  intro h r d;simp only[IT.step] at d⊢;split at d;.rename_i h1;rw[hr _ _ _ h1];exact ih _ _ _ d
  .cases d
 |Jd g args k ih=>
  intro h r d;simp only[IT.step] at d⊢;split at d
  .rename_i f a ht;split at d;.rename_i h1;simp only[hr _ _ _ h1];exact ih _ _ _ d
   .cases d
  .cases d
 |B7 f args k ih=>
  intro h r d;simp only[IT.step] at d⊢;split at d
  .rename_i Hp;rw[Af Hp];split at d
   .rename_i h1;rw[hr _ _ _ h1];split at d;.rename_i mz;simp only[mz,BN];exact ih _ _ _ d
    .cases d
   .cases d
  .cases d
 |loop key init body k l j=>
  intro h r d;simp only[IT.step] at d⊢;split at d;.rename_i h1;rw[l _ _ _ h1];exact hr _ _ _ d
  .rename_i x vs h1 hne hx;rw[l _ _ _ hx];cases x<;>first|exact j _ _ _ _ d|exact absurd rfl hne
  .cases d
 |Of key t k i j=>
  intro h r d;simp only[IT.step] at d⊢;split at d;.rename_i h1;rw[i _ _ h1];exact j _ _ _ _ d
  .cases d
 |same a b k ih=>
  intro h r d;simp only[IT.step] at d⊢;split at d;.rename_i hc;rw[Af hc];exact ih _ _ d
  .cases d
 |Po k ih=>intro h r d;simp only[IT.step] at d⊢;exact ih _ _ _ d
 |Kz m key v k ih=>
  intro h r d;simp only[IT.step] at d⊢;split at d;.exact ih _ _ d
  .cases d
 |Mf z ok m key k ih=>
  intro h r d;simp only[IT.step] at d⊢;split at d;.exact ih _ _ _ d
  .cases d
 |make size bytes zero len cap k ih=>
  intro h r d;simp only[IT.step] at d⊢;split at d;.exact ih _ _ _ d
  .cases d
 |Li size bytes s x k ih=>
  intro h r d;simp only[IT.step] at d⊢;split at d;.exact ih _ _ _ d
  .cases d
 |Fa s k ih=>
  intro h r d;simp only[IT.step] at d⊢;split at d;.exact ih _ _ _ d
  .cases d
 |Pk v k ih=>
  intro h r d;simp only[IT.step] at d⊢;split at d;.exact ih _ _ _ d
  .cases d
 |Pp off p k ih=>
  intro h r d;simp only[IT.step] at d⊢;split at d;.exact ih _ _ d
  .cases d
 |JI size bytes s x k ih=>
  intro h r d;simp only[IT.step] at d⊢;split at d;.exact ih _ _ _ d
  .cases d
 |GC size bytes s x k ih=>
  intro h r d;simp only[IT.step] at d⊢;split at d;.exact ih _ _ _ d
  .cases d
 |mem o args k ih=>
  intro h r d;simp only[IT.step] at d⊢;split at d;.exact ih _ _ _ d
  .cases d
 |wV f args k ih=>
  intro h r d;simp only[IT.step] at d⊢;split at d
  .rename_i h1;rw[hr _ _ _ h1];split at d;.rename_i mz;simp only[mz,BN];exact ih _ _ _ d
   .cases d
  .cases d
def IT.ou{fn:FuncId->List Aa->IT}:∀(n:Nat) (t:IT) (h:Ah) (r:Ka),IT.run fn n t h=some r->IT.run fn (n+1) t h=some r:=by
 intro n;induction n with
 |zero=>intro t h r a;simp[IT.run] at a
 |succ n ih=>intro t h r a;exact IT.JS (λt h r=>ih t h r) t h r a
def IT.Ii{fn:FuncId->List Aa->IT}{n m:Nat}(hnm:n<=m){t:IT}{h:Ah}{r:Ka}(a:IT.run fn n t h=some r):IT.run fn m t h=some r:=by
 induction hnm with
 |refl=>exact a
 |step _ ih=>exact IT.ou _ _ _ _ ih
abbrev HG:=DX->List Aa->Ah->Prop
def W(C:FY)(t:IT)(Q:HG)(h:Ah):Prop:=∃n x vs h',C.run n t h=some (x,vs,h')/\Q x vs h'
section
variable{C:FY}{Q:HG}{h:Ah}
def W.mono{t:IT}{Q':HG}(hw:W C t Q h)(hq:∀x vs h',Q x vs h'->Q' x vs h'):W C t Q' h:=
 let⟨n,x,vs,h',hr,q⟩:=hw;⟨n,x,vs,h',hr,hq _ _ _ q⟩
def aAm{x:DX}{vs:List Aa}(hq:Q x vs h):W C (.ret x vs) Q h:=⟨1,x,vs,h,rfl,hq⟩
def C9{t:IT}(a:∃n x vs h',IT.step (B9 C) (C.run n) t h=some (x,vs,h')/\Q x vs h'):W C t Q h:=
 let⟨n,x,vs,h',hr,q⟩:=a;⟨n+1,x,vs,h',hr,q⟩
def W.succ{t:IT}(a:W C t Q h):∃n x vs h',IT.step (B9 C) (C.run n) t h=some (x,vs,h')/\Q x vs h':=by
 obtain⟨n,x,vs,h',hr,q⟩:=a;cases n with
 |zero=>simp[FY.run,IT.run] at hr
 |succ n=>exact⟨n,x,vs,h',hr,q⟩
def aFv{o:Se}{args:List Aa}{k:Aa->IT}{v:Aa}(hv:AD o args=some v)(hw:W C (k v) Q h):W C (.op o args k) Q h:=by obtain⟨n,x,vs,h',hr,q⟩:=hw.succ;exact C9 ⟨n,x,vs,h',by simp only[IT.step,hv];exact hr,q⟩
def xD{n:Nat}{v:Aa}{k:List Aa->IT}(hv:v.cells.length=n)(hw:W C (k v.cells) Q h):W C (.cells n v k) Q h:=by obtain⟨m,x,vs,h',hr,q⟩:=hw.succ;exact C9 ⟨m,x,vs,h',by simp only[IT.step,hv,BN];exact hr,q⟩
def xE{b:Bool}{t e:IT}(ht:b=true->W C t Q h)(he:b=false->W C e Q h):W C (.Gg (.bool b) t e) Q h:=by
 cases b with
 |true=>obtain⟨m,x,vs,h',hr,q⟩:=(ht rfl).succ;exact C9 ⟨m,x,vs,h',by simp only[IT.step];exact hr,q⟩
 |false=>obtain⟨m,x,vs,h',hr,q⟩:=(he rfl).succ;exact C9 ⟨m,x,vs,h',by simp only[IT.step];exact hr,q⟩
def ov{n:Option Nat}{p v:Aa}{k:Aa->IT}(hv:A8 h n p=some v)(hw:W C (k v) Q h):W C (.load n p k) Q h:=by obtain⟨m,x,vs,h',hr,q⟩:=hw.succ;exact C9 ⟨m,x,vs,h',by simp only[IT.step,hv];exact hr,q⟩
def xF{n:Nat}{p v:Aa}{k:IT}{h1:Ah}(hv:Cv h n p v=some h1)(hw:W C k Q h1):W C (.store n p v k) Q h:=by obtain⟨m,x,vs,h',hr,q⟩:=hw.succ;exact C9 ⟨m,x,vs,h',by simp only[IT.step,hv];exact hr,q⟩
def xG{n:Nat}{v:Aa}{k:Aa->IT}(hv:v.cells.length=n)(hw:W C (k (.ptr (some (h.length,0)))) Q (h++[.cells v.cells])):W C (.alloc n v k) Q h:=by obtain⟨m,x,vs,h',hr,q⟩:=hw.succ;exact C9 ⟨m,x,vs,h',by simp only[IT.step,WY,hv,BN];exact hr,q⟩
def oz{a b:Aa}{k:IT}(hv:Aa.beq a b=true)(hw:W C k Q h):W C (.same a b k) Q h:=by obtain⟨m,x,vs,h',hr,q⟩:=hw.succ;exact C9 ⟨m,x,vs,h',by simp only[IT.step,hv,BN];exact hr,q⟩
def o_{k:Aa->IT}(hw:W C (k (.map (some h.length))) Q (h++[.map []])):W C (.Po k) Q h:=by obtain⟨m,x,vs,h',hr,q⟩:=hw.succ;exact C9 ⟨m,x,vs,h',by simp only[IT.step];exact hr,q⟩
def pc{m key v:Aa}{k:IT}{h1:Ah}(hv:Q2 h m key v=some h1)(hw:W C k Q h1):W C (.Kz m key v k) Q h:=by obtain⟨n,x,vs,h',hr,q⟩:=hw.succ;exact C9 ⟨n,x,vs,h',by simp only[IT.step,hv];exact hr,q⟩
def pd{z:Aa}{ok:Bool}{m key v:Aa}{k:Aa->IT}(hv:Pq h z ok m key=some v)(hw:W C (k v) Q h):W C (.Mf z ok m key k) Q h:=by obtain⟨n,x,vs,h',hr,q⟩:=hw.succ;exact C9 ⟨n,x,vs,h',by simp only[IT.step,hv];exact hr,q⟩
def rG{size bytes:Nat}{zero:List Aa}{len cap v:Aa}{k:Aa->IT}{h1:Ah}(hv:Sg h size bytes zero len cap=some (h1,v))(hw:W C (k v) Q h1):W C (.make size bytes zero len cap k) Q h:=by obtain⟨n,x,vs,h',hr,q⟩:=hw.succ;exact C9 ⟨n,x,vs,h',by simp only[IT.step,hv];exact hr,q⟩
def xH{size bytes:Nat}{s x v:Aa}{k:Aa->IT}{h1:Ah}(hv:KK h size bytes s x=some (h1,v))(hw:W C (k v) Q h1):W C (.Li size bytes s x k) Q h:=by obtain⟨n,x,vs,h',hr,q⟩:=hw.succ;exact C9 ⟨n,x,vs,h',by simp only[IT.step,hv];exact hr,q⟩
def Xj{s v:Aa}{k:Aa->IT}{h1:Ah}(hv:IW h s=some (h1,v))(hw:W C (k v) Q h1):W C (.Fa s k) Q h:=by obtain⟨n,x,vs,h',hr,q⟩:=hw.succ;exact C9 ⟨n,x,vs,h',by simp only[IT.step,hv];exact hr,q⟩
def aAn{u v:Aa}{k:Aa->IT}{h1:Ah}(hv:KA h u=some (h1,v))(hw:W C (k v) Q h1):W C (.Pk u k) Q h:=by obtain⟨n,x,vs,h',hr,q⟩:=hw.succ;exact C9 ⟨n,x,vs,h',by simp only[IT.step,hv];exact hr,q⟩
def xI{off:Nat}{p:Aa}{k:IT}{h1:Ah}(hv:Mg h off p=some h1)(hw:W C k Q h1):W C (.Pp off p k) Q h:=by obtain⟨n,x,vs,h',hr,q⟩:=hw.succ;exact C9 ⟨n,x,vs,h',by simp only[IT.step,hv];exact hr,q⟩
def pg{size bytes:Nat}{s x v:Aa}{k:Aa->IT}{h1:Ah}(hv:Gb h size bytes s x=some (h1,v))(hw:W C (k v) Q h1):W C (.JI size bytes s x k) Q h:=by obtain⟨n,x,vs,h',hr,q⟩:=hw.succ;exact C9 ⟨n,x,vs,h',by simp only[IT.step,hv];exact hr,q⟩
def ZZ{size bytes:Nat}{s x v:Aa}{k:Aa->IT}(hv:Q3 h size bytes s x=some v)(hw:W C (k v) Q h):W C (.GC size bytes s x k) Q h:=by obtain⟨n,x,vs,h',hr,q⟩:=hw.succ;exact C9 ⟨n,x,vs,h',by simp only[IT.step,hv];exact hr,q⟩
def aAo{o:lR}{args:List Aa}{v:Aa}{k:Aa->IT}{h1:Ah}(hv:E3 o h args=some (h1,v))(hw:W C (k v) Q h1):W C (.mem o args k) Q h:=by obtain⟨n,x,vs,h',hr,q⟩:=hw.succ;exact C9 ⟨n,x,vs,h',by simp only[IT.step,hv];exact hr,q⟩
def Ev(C:FY)(f:FuncId)(args:List Aa)(h:Ah)(R:Aa->Ah->Prop):Prop:=
 W C (B9 C f args) (λx vs h'=>x= .ret/\∃r,vs=[r]/\R r h') h
def Ev.mono{f:FuncId}{args:List Aa}{R R':Aa->Ah->Prop}(hw:Ev C f args h R)(hr:∀r h',R r h'->R' r h'):Ev C f args h R':=
 W.mono hw λ_ _ _ ⟨hx,r,hv,hR⟩=>⟨hx,r,hv,hr _ _ hR⟩
def ph{f:FuncId}{args:List Aa}{k:Aa->IT}(hc:Ev C f args h λr h1=>W C (k r) Q h1):W C (.call f args k) Q h:=by obtain⟨n,x,vs,h1,hr,hx,r,hv,m,x',HZ,h',FZ,q⟩:=hc;subst hx;subst hv;refine C9 ⟨max n m,x',HZ,h',?_,q⟩;have a:=IT.Ii (HW n m) hr;have h2:=IT.Ii (Bs (Hn n m) (Ff _)) FZ;simp only[IT.step];simp only[FY.run] at*;rw[a];exact h2
def N_{f:FuncId}{args:List Aa}{k:Aa->IT}(ha:args.all Aa.MT=true)(hc:Ev C f args [] λr _=>r.MT=true/\W C (k r) Q h):W C (.B7 f args k) Q h:=by obtain⟨n,x,vs,h1,hr,hx,r,hv,Hp,m,x',HZ,h',FZ,q⟩:=hc;subst hx;subst hv;refine C9 ⟨max n m,x',HZ,h',?_,q⟩;have a:=IT.Ii (HW n m) hr;have h2:=IT.Ii (Bs (Hn n m) (Ff _)) FZ;simp only[IT.step,ha,BN];simp only[FY.run] at*;rw[a];simp only[Hp,BN];exact h2
def pj{key:Nat}{t:IT}{k:DX->List Aa->IT}(hw:W C t (λx vs h1=>W C (k x vs) Q h1) h):W C (.Of key t k) Q h:=by obtain⟨n,x,vs,h1,hr,a⟩:=hw.succ;obtain⟨m,x',HZ,h',FZ,q⟩:=a.succ;refine C9 ⟨max n m,x',HZ,h',?_,q⟩;have c:=IT.JS (λt h r=>IT.Ii (fn:=B9 C) (HW n m)) _ _ _ hr;have b:=IT.JS (λt h r=>IT.Ii (fn:=B9 C) (Hn n m)) _ _ _ FZ;simp only[IT.step];simp only[FY.run] at*;rw[c];exact b
end
end Go.Am
end
