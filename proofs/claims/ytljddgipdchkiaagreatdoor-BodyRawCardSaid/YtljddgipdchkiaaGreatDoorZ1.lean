/- Lemmas -/
import GoSem.Step
set_option linter.all false
def Ac:=@if_neg
def Ae:=@if_pos
def Ag:=@Nat.le_refl
def Ai:=@List.getElem?_eq_getElem
def Aj:=@List.getElem?_append_left
def Ak:=@List.getElem?_eq_some_iff
def Al:=@List.length_map
def An:=@false_implies
def Ao:=@List.getElem?_set_ne
def Ap:=@true_implies
def As:=@List.length_take
def Au:=@List.length_append
def Av:=@List.mem_append
def Aw:=@not_false_eq_true
def Ax:=@not_true_eq_false
def Ay:=@List.take_succ_eq_append_getElem
def AD:=@List.take_of_length_le
def AF:=@List.drop_eq_getElem_cons
def AG:=@decide_eq_false
def AI:=@decide_eq_true
def AJ:=@List.append_assoc
def AL:=@List.getD_eq_getElem?_getD
def AN:=@List.getElem_mem
def AO:=@Nat.lt_or_ge
def AQ:=@List.getElem?_set_self
def AS:=@List.mem_cons
def AT:=@Int.toNat_natCast
def AU:=@Nat.zero_le
def AW:=@List.drop_of_length_le
def A0:=@eq_true
def A4:=@List.Sublist.refl
def A7:=@Array.getElem?_eq_some_iff
def Bc:=@List.length_drop
def Be:=@List.length_cons
def Bl:=@List.mem_map
def Bm:=@List.getElem?_append_right
def Bn:=@List.mem_of_mem_take
def Bp:=@List.length_singleton
def Br:=@List.length_set
def Bs:=@List.map_cons
def Bu:=@Nat.le_trans
def Bv:=@Nat.add_zero
def Bx:=@Bool.and_eq_true
def By:=@List.take_length
def BE:=@Option.some.injEq
def BG:=@List.mem_of_mem_drop
def BK:=@List.append_nil
def BL:=@List.map_append
def BM:=@Nat.add_mul
def BP:=@List.set_append_right
def BT:=@if_true
def BV:=@List.nil_append
def BY:=@List.mem_append_right
def B0:=@Nat.zero_add
def B1:=@List.length_nil
def B2:=@List.set_eq_take_append_cons_drop
def B5:=@List.nodup_append
def B8:=@List.nodup_cons
def Ca:=@ne_eq
def Cb:=@List.size_toArray
def Cc:=@Option.map_some
def Ce:=@congrArg
def Cf:=@Nat.zero_lt_one
def Ci:=@Array.length_toList
def Cj:=@List.getElem?_take
def Ck:=@List.mem_filterMap
def Cn:=@List.getElem?_map
def Cs:=@Nat.min_eq_left
def Ct:=@List.getElem?_drop
def Cv:=@Option.bind_some
def Cy:=@Bool.false_eq_true
def CB:=@List.mem_of_getElem?
def CC:=@List.mem_append_left
def CE:=@eq_self
def CF:=@List.take_append_drop
def CJ:=@List.take_append_of_le_length
def CK:=@List.cons_append
def CR:=@List.getElem?_of_mem
def CU:=@Array.getElem?_eq_getElem
def CW:=@List.flatten_cons
def CX:=@decide_eq_true_eq
def CY:=@List.getElem_map
def CZ:=@List.getElem?_take_of_lt
def C8:=@Nat.succ_pos
def C9:=@Nat.sub_self
def Db:=@List.mem_or_eq_of_mem_set
def Df:=@List.map_nil
def Dn:=@List.eq_nil_of_length_eq_zero
def Dr:=@Nat.lt_irrefl
def Dv:=@decide_eq_decide
def DA:=@List.mem_singleton
def DH:=@Ne.symm
def DI:=@List.mem_filter
def DK:=@List.all_eq_true
def DN:=@List.take_sublist
def DU:=@Nat.mul_le_mul_right
def DV:=@decide_true
def DW:=@List.filter_append
def D3:=@Option.some.inj
def D5:=@Nat.one_mul
def D9:=@List.getElem?_eq_none
def Eb:=@if_false
def Ec:=@decide_false
def Ei:=@List.drop_drop
def Eo:=@List.map_set
def Ep:=@List.drop_length
def EG:=@List.length_pos_iff
def EH:=@List.findIdx?_eq_some_iff_findIdx_eq
def EJ:=@List.reverse_cons
def EM:=@List.filterMap_append
def E4:=@List.cons.injEq
def Fb:=@Nat.add_sub_cancel
def Fj:=@Nat.le_succ
def Fk:=@List.reverse_reverse
def FA:=@List.take_take
def FB:=@List.take_left
def FF:=@Nat.mul_one
def FX:=@List.length_replicate
def F7:=@Array.eq_empty_of_size_eq_zero
def F8:=@Nat.le_add_right
def Ge:=@List.map_take
def Gf:=@List.getElem_append_left
def Gy:=@Int.le_refl
def GH:=@List.find?_cons
def GU:=@Array.toList_append
def GV:=@Int.toNat_of_nonneg
def Hg:=@Array.getD_eq_getD_getElem?
def Hi:=@Bool.false_or
def Hk:=@Nat.le_max_right
def Hl:=@Option.getD_some
def Hm:=@List.filter_cons
def HA:=@Array.ext'
def HL:=@List.extract_eq_take_drop
def HM:=@Nat.le_max_left
def HN:=@List.take_left'
def H5:=@bne_self_eq_false
def Ii:=@Prod.mk.injEq
def Ir:=@List.reverse_append
def It:=@List.filterMap_cons
def IJ:=@Nat.le_mul_of_pos_right
def IK:=@List.getElem?_cons_zero
def IL:=@Bool.not_false
def IM:=@Int.eq_ofNat_of_zero_le
def Ja:=@List.drop_append_of_le_length
def Jf:=@Nat.eq_zero_or_pos
def Jg:=@List.reverse_singleton
def Jh:=@List.find?_eq_none
def Ji:=@Int.not_lt
def Jv:=@List.drop_left'
def JA:=@List.map_drop
def JL:=@List.singleton_append
def JM:=@List.set_getElem_self
def JZ:=@Array.size_append
def J0:=@of_decide_eq_true
def Kl:=@List.take_zero
def Km:=@Array.replicate_succ
def Kn:=@Array.replicate_zero
def KA:=@List.getLast?_eq_getElem?
def KL:=@List.toList_toArray
def KM:=@List.flatten_append
def KN:=@List.replicate_succ
def KO:=@List.append_toArray
def KP:=@List.length_reverse
def Lo:=@Bool.or_false
def LD:=@Nat.lt_of_lt_of_le
def LI:=@List.getElem?_cons_succ
def LJ:=@List.length_eq_zero_iff
def Mt:=@List.drop_zero
def Mu:=@Nat.le_of_eq
def Mv:=@Nat.zero_mul
def Mw:=@List.flatMap_cons
def Mx:=@and_true
def My:=@List.nodup_nil
def Mz:=@true_and
def MA:=@Option.map_eq_some_iff
def MB:=@List.push_toArray
def MC:=@Nat.le_of_lt
def MW:=@Array.getElem?_modify
def MX:=@Nat.eq_of_beq_eq_true
def M8:=@Array.toList_map
def M9:=@not_or
def Na:=@Nat.lt_succ_self
def NQ:=@Array.toList_extract
def Oy:=@Bool.or_eq_true
def Oz:=@Bool.eq_iff_iff
def OJ:=@List.take_set_of_le
def OK:=@List.drop_take_self
def OL:=@List.mem_map_of_mem
def OU:=@Nat.add_comm
def OV:=@Nat.ne_of_lt
def PH:=@Array.ext_getElem?
def PI:=@List.set_cons_zero
def PJ:=@Int.fdiv_eq_ediv_of_nonneg
def Ql:=@Option.filter_eq_some_iff
def Qm:=@List.mem_of_find?_eq_some
def QJ:=@List.ext_getElem?
def QK:=@List.find?_append
def Rh:=@Bool.not_true
def Ri:=@Nat.add_assoc
def Rj:=@Bool.bne_true
def Rk:=@List.any_cons
def SF:=@decide_eq_false_iff_not
def SG:=@List.drop_append
def SH:=@List.reverse_nil
def SI:=@Option.bind_eq_some_iff
def SJ:=@Nat.add_sub_cancel_left
def SK:=@List.not_mem_nil
def SL:=@List.any_eq_true
def SM:=@List.map_reverse
def TE:=@List.sublist_cons_self
def TF:=@Bool.true_or
def Ut:=@List.find?_some
def Uu:=@List.any_append
def Uv:=@UInt8.toNat_inj
def Vb:=@List.length_filter_le
def X0:=@List.mem_cons_of_mem
def Ya:=@false_and
def YF:=@List.take_succ_cons
def YG:=@List.drop_set_of_lt
def YH:=@Array.getElem?_push
def YI:=@List.map_congr_left
def YJ:=@List.filter_eq_self
def ZO:=@List.all_cons
def dO:=@Option.isSome_some
def jI:=@and_self
def jJ:=@dif_pos
def jK:=@List.any_nil
def jL:=@List.getLast?_nil
def jV:=@Array.getElem?_setIfInBounds_ne
def jW:=@List.takeWhile_append_dropWhile
def oU:=@List.zipIdx_cons
def oV:=@List.take_append
def oW:=@List.mem_flatMap
def oX:=@Nat.max_eq_right
def ay:=@List.foldl_cons
def bu:=@eq_comm
def qe:=@beq_iff_eq
def qg:=@Bool.and_false
def qh:=@Bool.bne_false
def qi:=@Bool.false_and
def qv:=@List.getElem_append_right
def Ē:=@List.take_add
def ē:=@List.eq_of_mem_replicate
def Ĕ:=@List.drop_nil
def ĕ:=@List.take_nil
def Ė:=@Int.lt_irrefl
def ė:=@Int.ofNat.inj
def ũ:=@and_false
def Ū:=@List.filter_cons_of_pos
def aEq:=@List.length_eq_one_iff
def aEr:=@Iff.rfl
def aEs:=@Bool.or_true
def aEt:=@List.set_set
def aEu:=@List.getElem_cons_zero
def aE5:=@List.contains_iff_mem
def aE6:=@Array.getElem?_toList
def aE7:=@List.dropLast_eq_take
def aE8:=@List.getElem_set_self
def aK5:=@List.getElem?_append
def aK6:=@List.range_eq_range'
def aK7:=@List.pairwise_append
def aK8:=@or_false
def aK9:=@List.mem_of_getLast?
def aL0:=@Nat.add_sub_cancel'
def aL1:=@Array.toList_zipIdx
def aL2:=@List.getD_cons_zero
def aL3:=@List.getD_cons_succ
def aL4:=@List.takeWhile_cons
def aL5:=@List.dropWhile_cons
def aP8:=@List.zip_cons_cons
def aP9:=@Array.foldl_toList
def aQa:=@List.pairwise_cons
def aQb:=@Option.isSome_none
def aQc:=@List.findIdx?_cons
def aQd:=@Option.toList_some
def aQe:=@List.map_singleton
def aQf:=@List.set_cons_succ
def aR6:=@Bool.not_eq_true'
def aR7:=@List.getElem?_set
def aR8:=@List.pairwise_map
def aSa:=@List.any_eq_false
def aSb:=@List.drop_sublist
def aSd:=@List.getElem_take
abbrev aV7:List UInt8:=[97,116,116,114,105,98,117,116,101,78,97,109,101,32,97,116,116,114,105,98,117,116,101,84,121,112,101,32,98,97,115,101,70,114,101,113,117,101,110,99,121,32,98,97,115,101,80,114,111,102,105,108,101,32,99,97,108,99,77,111,100,101,32,99,108,105,112,80,97,116,104,85,110,105,116,115,32,100,105,102,102,117,115,101,67,111,110,115,116,97,110,116,32,101,100,103,101,77,111,100,101,32,102,105,108,116,101,114,85,110,105,116,115,32,103,108,121,112,104,82,101,102,32,103,114,97,100,105,101,110,116,84,114,97,110,115,102,111,114,109,32,103,114,97,100,105,101,110,116,85,110,105,116,115,32,107,101,114,110,101,108,77,97,116,114,105,120,32,107,101,114,110,101,108,85,110,105,116,76,101,110,103,116,104,32,107,101,121,80,111,105,110,116,115,32,107,101,121,83,112,108,105,110,101,115,32,107,101,121,84,105,109,101,115,32,108,101,110,103,116,104,65,100,106,117,115,116,32,108,105,109,105,116,105,110,103,67,111,110,101,65,110,103,108,101,32,109,97,114,107,101,114,72,101,105,103,104,116,32,109,97,114,107,101,114,85,110,105,116,115,32,109,97,114,107,101,114,87,105,100,116,104,32,109,97,115,107,67,111,110,116,101,110,116,85,110,105,116,115,32,109,97,115,107,85,110,105,116,115,32,110,117,109,79,99,116,97,118,101,115,32,112,97,116,104,76,101,110,103,116,104,32,112,97,116,116,101,114,110,67,111,110,116,101,110,116,85,110,105,116,115,32,112,97,116,116,101,114,110,84,114,97,110,115,102,111,114,109,32,112,97,116,116,101,114,110,85,110,105,116,115,32,112,111,105,110,116,115,65,116,88,32,112,111,105,110,116,115,65,116,89,32,112,111,105,110,116,115,65,116,90,32,112,114,101,115,101,114,118,101,65,108,112,104,97,32,112,114,101,115,101,114,118,101,65,115,112,101,99,116,82,97,116,105,111,32,112,114,105,109,105,116,105,118,101,85,110,105,116,115,32,114,101,102,88,32,114,101,102,89,32,114,101,112,101,97,116,67,111,117,110,116,32,114,101,112,101,97,116,68,117,114,32,114,101,113,117,105,114,101,100,69,120,116,101,110,115,105,111,110,115,32,114,101,113,117,105,114,101,100,70,101,97,116,117,114,101,115,32,115,112,101,99,117,108,97,114,67,111,110,115,116,97,110,116,32,115,112,101,99,117,108,97,114,69,120,112,111,110,101,110,116,32,115,112,114,101,97,100,77,101,116,104,111,100,32,115,116,97,114,116,79,102,102,115,101,116,32,115,116,100,68,101,118,105,97,116,105,111,110,32,115,116,105,116,99,104,84,105,108,101,115,32,115,117,114,102,97,99,101,83,99,97,108,101,32,115,121,115,116,101,109,76,97,110,103,117,97,103,101,32,116,97,98,108,101,86,97,108,117,101,115,32,116,97,114,103,101,116,88,32,116,97,114,103,101,116,89,32,116,101,120,116,76,101,110,103,116,104,32,118,105,101,119,66,111,120,32,118,105,101,119,84,97,114,103,101,116,32,120,67,104,97,110,110,101,108,83,101,108,101,99,116,111,114,32,121,67,104,97,110,110,101,108,83,101,108,101,99,116,111,114,32,122,111,111,109,65,110,100,80,97,110]
abbrev aV8:List UInt8:=[97,100,100,114,101,115,115,32,97,112,112,108,101,116,32,97,114,101,97,32,97,114,116,105,99,108,101,32,97,115,105,100,101,32,98,97,115,101,32,98,97,115,101,102,111,110,116,32,98,103,115,111,117,110,100,32,98,108,111,99,107,113,117,111,116,101,32,98,111,100,121,32,98,114,32,98,117,116,116,111,110,32,99,97,112,116,105,111,110,32,99,101,110,116,101,114,32,99,111,108,32,99,111,108,103,114,111,117,112,32,100,100,32,100,101,116,97,105,108,115,32,100,105,114,32,100,105,118,32,100,108,32,100,116,32,101,109,98,101,100,32,102,105,101,108,100,115,101,116,32,102,105,103,99,97,112,116,105,111,110,32,102,105,103,117,114,101,32,102,111,111,116,101,114,32,102,111,114,109,32,102,114,97,109,101,32,102,114,97,109,101,115,101,116,32,104,49,32,104,50,32,104,51,32,104,52,32,104,53,32,104,54,32,104,101,97,100,32,104,101,97,100,101,114,32,104,103,114,111,117,112,32,104,114,32,104,116,109,108,32,105,102,114,97,109,101,32,105,109,103,32,105,110,112,117,116,32,107,101,121,103,101,110,32,108,105,32,108,105,110,107,32,108,105,115,116,105,110,103,32,109,97,105,110,32,109,97,114,113,117,101,101,32,109,101,110,117,32,109,101,116,97,32,110,97,118,32,110,111,101,109,98,101,100,32,110,111,102,114,97,109,101,115,32,110,111,115,99,114,105,112,116,32,111,98,106,101,99,116,32,111,108,32,112,32,112,97,114,97,109,32,112,108,97,105,110,116,101,120,116,32,112,114,101,32,115,99,114,105,112,116,32,115,101,97,114,99,104,32,115,101,99,116,105,111,110,32,115,101,108,101,99,116,32,115,111,117,114,99,101,32,115,116,121,108,101,32,115,117,109,109,97,114,121,32,116,97,98,108,101,32,116,98,111,100,121,32,116,100,32,116,101,109,112,108,97,116,101,32,116,101,120,116,97,114,101,97,32,116,102,111,111,116,32,116,104,32,116,104,101,97,100,32,116,105,116,108,101,32,116,114,32,116,114,97,99,107,32,117,108,32,119,98,114,32,120,109,112]
abbrev aV9:List UInt8:=[97,108,116,71,108,121,112,104,32,97,108,116,71,108,121,112,104,68,101,102,32,97,108,116,71,108,121,112,104,73,116,101,109,32,97,110,105,109,97,116,101,67,111,108,111,114,32,97,110,105,109,97,116,101,77,111,116,105,111,110,32,97,110,105,109,97,116,101,84,114,97,110,115,102,111,114,109,32,99,108,105,112,80,97,116,104,32,102,101,66,108,101,110,100,32,102,101,67,111,108,111,114,77,97,116,114,105,120,32,102,101,67,111,109,112,111,110,101,110,116,84,114,97,110,115,102,101,114,32,102,101,67,111,109,112,111,115,105,116,101,32,102,101,67,111,110,118,111,108,118,101,77,97,116,114,105,120,32,102,101,68,105,102,102,117,115,101,76,105,103,104,116,105,110,103,32,102,101,68,105,115,112,108,97,99,101,109,101,110,116,77,97,112,32,102,101,68,105,115,116,97,110,116,76,105,103,104,116,32,102,101,68,114,111,112,83,104,97,100,111,119,32,102,101,70,108,111,111,100,32,102,101,70,117,110,99,65,32,102,101,70,117,110,99,66,32,102,101,70,117,110,99,71,32,102,101,70,117,110,99,82,32,102,101,71,97,117,115,115,105,97,110,66,108,117,114,32,102,101,73,109,97,103,101,32,102,101,77,101,114,103,101,32,102,101,77,101,114,103,101,78,111,100,101,32,102,101,77,111,114,112,104,111,108,111,103,121,32,102,101,79,102,102,115,101,116,32,102,101,80,111,105,110,116,76,105,103,104,116,32,102,101,83,112,101,99,117,108,97,114,76,105,103,104,116,105,110,103,32,102,101,83,112,111,116,76,105,103,104,116,32,102,101,84,105,108,101,32,102,101,84,117,114,98,117,108,101,110,99,101,32,102,111,114,101,105,103,110,79,98,106,101,99,116,32,103,108,121,112,104,82,101,102,32,108,105,110,101,97,114,71,114,97,100,105,101,110,116,32,114,97,100,105,97,108,71,114,97,100,105,101,110,116,32,116,101,120,116,80,97,116,104]
abbrev aWa:List UInt8:=[97,112,112,108,101,116,32,99,97,112,116,105,111,110,32,104,116,109,108,32,109,97,114,113,117,101,101,32,111,98,106,101,99,116,32,116,97,98,108,101,32,116,100,32,116,101,109,112,108,97,116,101,32,116,104]
abbrev aWb:List UInt8:=[116,101,109,112,108,97,116,101]
abbrev aWc:List UInt8:=[120,108,105,110,107,58,97,99,116,117,97,116,101,32,120,108,105,110,107,58,97,114,99,114,111,108,101,32,120,108,105,110,107,58,104,114,101,102,32,120,108,105,110,107,58,114,111,108,101,32,120,108,105,110,107,58,115,104,111,119,32,120,108,105,110,107,58,116,105,116,108,101,32,120,108,105,110,107,58,116,121,112,101]
abbrev aWd:List UInt8:=[98,97,115,101,32,98,97,115,101,102,111,110,116,32,98,103,115,111,117,110,100,32,108,105,110,107,32,109,101,116,97,32,110,111,102,114,97,109,101,115,32,115,99,114,105,112,116,32,115,116,121,108,101,32,116,101,109,112,108,97,116,101,32,116,105,116,108,101]
abbrev aWe:List UInt8:=[100,100,32,100,116,32,108,105,32,111,112,116,103,114,111,117,112,32,111,112,116,105,111,110,32,112,32,114,98,32,114,112,32,114,116,32,114,116,99]
abbrev aWf:List UInt8:=[99,97,112,116,105,111,110,32,99,111,108,103,114,111,117,112,32,116,98,111,100,121,32,116,100,32,116,102,111,111,116,32,116,104,32,116,104,101,97,100,32,116,114]
abbrev aWg:List UInt8:=[97,110,110,111,116,97,116,105,111,110,45,120,109,108]
abbrev aWh:List UInt8:=[104,116,109,108]
abbrev aWi:List UInt8:=[116,97,98,108,101,32,116,98,111,100,121,32,116,102,111,111,116,32,116,104,101,97,100,32,116,114]
abbrev aWj:List UInt8:=[100,101,115,99,32,102,111,114,101,105,103,110,79,98,106,101,99,116,32,116,105,116,108,101]
abbrev aWk:List UInt8:=[98,117,116,116,111,110]
abbrev aWl:List UInt8:=[116,97,98,108,101]
abbrev aWm:List UInt8:=[45,47,47,87,51,67,47,47,68,84,68,32,72,84,77,76,32,69,120,112,101,114,105,109,101,110,116,97,108,32,49,57,57,54,48,55,49,50,47,47]
abbrev aWn:List UInt8:=[45,47,47,87,51,67,47,47,68,84,68,32,72,84,77,76,32,69,120,112,101,114,105,109,101,110,116,97,108,32,57,55,48,52,50,49,47,47]
abbrev aWo:List UInt8:=[111,112,116,103,114,111,117,112,32,111,112,116,105,111,110]
abbrev aWp:List UInt8:=[97,112,112,108,105,99,97,116,105,111,110,47,120,104,116,109,108,43,120,109,108]
abbrev aWq:List UInt8:=[45,47,47,87,51,67,47,47,68,84,68,32,72,84,77,76,32,52,46,48,32,84,114,97,110,115,105,116,105,111,110,97,108,47,47]
abbrev aWr:List UInt8:=[120,109,108,110,115,58,120,108,105,110,107]
abbrev aWs:List UInt8:=[99,97,112,116,105,111,110]
abbrev aWt:List UInt8:=[104,116,109,108,32,116,97,98,108,101,32,116,101,109,112,108,97,116,101]
abbrev aWu:List UInt8:=[102,111,114,101,105,103,110,79,98,106,101,99,116]
abbrev aWv:List UInt8:=[120,108,105,110,107,58,97,114,99,114,111,108,101]
abbrev aWw:List UInt8:=[45,47,47,87,51,67,47,47,68,84,68,32,72,84,77,76,32,52,46,48,32,70,114,97,109,101,115,101,116,47,47]
abbrev aWx:List UInt8:=[120,108,105,110,107,58,97,99,116,117,97,116,101]
abbrev aWy:List UInt8:=[109,105,32,109,110,32,109,111,32,109,115,32,109,116,101,120,116]
abbrev aWz:List UInt8:=[45,47,47,87,51,67,47,47,68,84,68,32,72,84,77,76,32,51,32,49,57,57,53,45,48,51,45,50,52,47,47]
abbrev aWA:List UInt8:=[120,108,105,110,107,58,116,105,116,108,101]
abbrev aWB:List UInt8:=[104,49,32,104,50,32,104,51,32,104,52,32,104,53,32,104,54]
abbrev aWC:List UInt8:=[120,109,108,58,115,112,97,99,101]
abbrev aWD:List UInt8:=[120,109,108,110,115]
abbrev aWE:List UInt8:=[111,112,116,103,114,111,117,112]
abbrev aWF:List UInt8:=[99,111,108,103,114,111,117,112]
abbrev aWG:List UInt8:=[120,108,105,110,107,58,104,114,101,102]
abbrev aWH:List UInt8:=[120,108,105,110,107,58,114,111,108,101]
abbrev aWI:List UInt8:=[120,108,105,110,107,58,115,104,111,119]
abbrev aWJ:List UInt8:=[120,108,105,110,107,58,116,121,112,101]
abbrev aWK:List UInt8:=[102,114,97,109,101,115,101,116]
abbrev aWL:List UInt8:=[104,101,97,100]
abbrev aWM:List UInt8:=[100,101,102,105,110,105,116,105,111,110,117,114,108]
abbrev aWN:List UInt8:=[97,112,112,108,101,116,32,109,97,114,113,117,101,101,32,111,98,106,101,99,116]
abbrev aWO:List UInt8:=[120,109,108,58,108,97,110,103]
abbrev aWP:List UInt8:=[45,47,47,73,69,84,70,47,47,68,84,68,32,72,84,77,76,32,76,101,118,101,108,32]
abbrev aWQ:List UInt8:=[45,47,47,73,69,84,70,47,47,68,84,68,32,72,84,77,76,32,83,116,114,105,99,116]
abbrev aWR:List UInt8:=[45,47,47,87,51,79,47,47,68,84,68,32,87,51,32,72,84,77,76,32,51,46,48,47,47]
abbrev aWS:List UInt8:=[111,112,116,105,111,110]
abbrev aWT:List UInt8:=[100,101,102,105,110,105,116,105,111,110,85,82,76]
abbrev aWU:List UInt8:=[116,102,111,111,116]
abbrev aWV:List UInt8:=[116,105,116,108,101]
abbrev aWW:List UInt8:=[45,47,47,73,69,84,70,47,47,68,84,68,32,72,84,77,76,32,50,46,49,69,47,47]
abbrev aWX:List UInt8:=[116,98,111,100,121]
abbrev aWY:List UInt8:=[116,104,101,97,100]
abbrev aWZ:List UInt8:=[98,111,100,121]
abbrev aW0:List UInt8:=[45,47,47,73,69,84,70,47,47,68,84,68,32,72,84,77,76,32,50,46,48]
abbrev aW1:List UInt8:=[45,47,47,87,51,67,47,47,68,84,68,32,87,51,32,72,84,77,76,47,47]
abbrev aW2:List UInt8:=[104,101,97,100,32,98,111,100,121,32,104,116,109,108,32,98,114]
abbrev aW3:List UInt8:=[45,47,47,87,51,67,47,47,68,84,68,32,72,84,77,76,32,51,46,50]
abbrev aW4:List UInt8:=[115,101,108,101,99,116]
abbrev aW5:List UInt8:=[45,47,47,73,69,84,70,47,47,68,84,68,32,72,84,77,76,32,51]
abbrev aW6:List UInt8:=[45,47,47,73,69,84,70,47,47,68,84,68,32,72,84,77,76,47,47]
abbrev aW7:List UInt8:=[116,101,120,116,47,104,116,109,108]
abbrev aW8:List UInt8:=[120,108,105,110,107]
abbrev aW9:List UInt8:=[101,110,99,111,100,105,110,103]
abbrev aXa:List UInt8:=[109,97,114,113,117,101,101]
abbrev aXb:List UInt8:=[97,114,99,114,111,108,101]
abbrev aXc:List UInt8:=[97,99,116,117,97,116,101]
abbrev aXd:List UInt8:=[97,112,112,108,101,116]
abbrev aXe:List UInt8:=[111,98,106,101,99,116]
abbrev aXf:List UInt8:=[116,121,112,101]
abbrev aXg:List UInt8:=[100,101,115,99]
abbrev aXh:List UInt8:=[110,111,115,99,114,105,112,116]
abbrev aXi:List UInt8:=[111,108,32,117,108]
abbrev aXj:List UInt8:=[115,112,97,99,101]
abbrev aXk:List UInt8:=[104,114,101,102]
abbrev aXl:List UInt8:=[114,111,108,101]
abbrev aXm:List UInt8:=[115,104,111,119]
theorem Ab{p:Prop}(h:p:=by omega):p:=h
theorem AK{p:Prop}(h:p:=by simp):p:=h
theorem A5{p:Prop}(h:p:=by decide):p:=h
theorem GB{p:Prop}(h:p:=by decide +kernel):p:=h
theorem Dp{p:Prop}(h:p:=by simp only; omega):p:=h
theorem Eg{p:Prop}(h:p:=by simp; omega):p:=h
theorem IU{p:Prop}(h:p:=by simp[Go.Op.operands]):p:=h
theorem QU{p:Prop}(h:p:=by simp[Go.Value.cells,Go.Value.oneCell']):p:=h
section
section
namespace Go.Am
abbrev Aq:=List UInt8
inductive Aa where
 |bool (b:Bool)
 |int (k:IntKind) (n:Int)
 |str (s:Aq)
 |ptr (p:Option (Nat×Nat))
 |Cq (cells:List Aa)
 |sl (size:Nat) (Az:List (List Aa))
 |slnil
 |Gb (size:Nat)
 |CD (id off len size:Nat)
 |map (m:Option Nat)
 |func (fn:Fn) (first captured:List Aa)
 |nilFunc
 |iface (t:TypeId) (v:Aa)
 |nilIface
 |agg (cells:List Aa)
 |tuple (vs:List Aa)
 deriving Inhabited
mutual
def Aa.beq:Aa->Aa->Bool
 | .bool a,.bool b=>a==b
 | .int k a,.int l b=>k==l&&a==b
 | .str a,.str b=>a==b
 | .ptr a,.ptr b=>a==b
 | .Cq a,.Cq b=>Aa.Ro a b
 | .sl n a,.sl m b=>n==m&&Aa.Rp a b
 | .slnil,.slnil=>true
 | .Gb a,.Gb b=>a==b
 | .CD a b c d,.CD a' b' c' e=>a==a'&&b==b'&&c==c'&&d==e
 | .map a,.map b=>a==b
 | .func f a b,.func f' a' b'=>f==f'&&Aa.Ro a a'&&Aa.Ro b b'
 | .nilFunc,.nilFunc=>true
 | .iface t a,.iface t' a'=>t==t'&&Aa.beq a a'
 | .nilIface,.nilIface=>true
 | .agg a,.agg b=>Aa.Ro a b
 | .tuple a,.tuple b=>Aa.Ro a b
 |_,_=>false
def Aa.Ro:List Aa->List Aa->Bool
 |[],[]=>true
 |a::x,b::y=>Aa.beq a b&&Aa.Ro x y
 |_,_=>false
def Aa.Rp:List (List Aa)->List (List Aa)->Bool
 |[],[]=>true
 |a::x,b::y=>Aa.Ro a b&&Aa.Rp x y
 |_,_=>false
end
def Aa.cells:Aa->List Aa
 | .agg cs=>cs
 | .tuple _=>[]
 |v=>[v]
inductive Dx where
 |cells (cs:List Aa)
 |map (es:List (Aa×Aa))
 |CT
 deriving Inhabited
abbrev Ah:=List Dx
inductive bw where
 |copy (size:Nat)
 |clear (size:Nat) (zero:List Aa)
 |wR (size:Nat) (lo hi:Bool)
 |jX (size:Nat)
 |aE9 (t:TypeId)
 |bz (zero:Aa) (ok:Bool)
 |NU (zero:Aa)
 |ZP (zero:Aa)
 |Lp
 |Uw
 |wS
 |QL (g:Ah->List Aa->Option (Ah×Aa))
def bw.aFa:bw->Bool
 | .jX _| .clear _ _| .Lp| .Uw=>true
 |_=>false
inductive Er where
 |undef
 |skip
 |val (v:Aa)
 |OM (b:Bool)
 |Bw (v:Aa)
 |box (ver:Nat) (cells:List Aa) (Bw:List Nat)
 |Fl (s off:Nat)
 deriving Inhabited
abbrev BW:=List Er
def BW.at(U:BW)(s:Nat):Er:=U.getD s .undef
def Er.Ho:Er->Option Aa
 | .val v| .Bw v=>some v
 | .OM b=>some (.bool b)
 |_=>none
inductive FK where
 |b|i|s
 deriving DecidableEq,Inhabited
inductive NK where
 |sl|fn|mp
 deriving DecidableEq,Inhabited
inductive X1 where
 |int (op:BinOp)
 |str (op:BinOp)
 |beq (neg:Bool)
 |geq (neg:Bool) (ks:List FK)
 |Rq (neg:Bool)
 |GC (neg:Bool) (k:NK)
 |un (op:UnOp)
 |conv(k:IntKind)
 |pick
 |part (off:Nat) (n:Option Nat)
 |ū (len size:Nat) (n:Option Nat)
 |Qd
 |EN (off:Nat)
 |FC (size:Nat)
 |TG (len size:Nat)
 |len (isStr:Bool)
 |append (size bytes:Nat)
 |HO (size:Nat) (isStr lo hi:Bool)
 |ext (i:Nat)
 |L2
 |BI (size:Nat)
 |Gb (size:Nat)
 |BF (zero:List Aa) (places:List (Nat×Nat))
 |Lq (isMax:Bool)
 |Ux
 |s2b
 |i2s
 deriving Inhabited
def OW:Value->Option Aa
 | .bool b=>some (.bool b)
 | .int k n=>some (.int k n)
 | .string s=>some (.str s.data.toList)
 | .pointer none=>some (.ptr none)
 | .slice none 0 0=>some .slnil
 | .map none=>some (.map none)
 | .func fn f c=>if f.size=0/\c.size=0 then some (.func fn [] []) else none
 | .nilFunc=>some .nilFunc
 | .nilIface=>some .nilIface
 |_=>none
def LW:List Value->Option (List Aa)
 |[]=>some []
 |v::vs=>match OW v,LW vs with
  |some a,some as=>some (a::as)
  |_,_=>none
def KQ:Value->Option Aa
 | .agg cs=>(LW cs.toList).map .agg
 |v=>OW v
def PK:Sem Value->Option Value
 | .pure v=>some v
 |_=>none
def AX:Nat:=140737488355328
def oY(op:BinOp)(k:IntKind)(a:Int)(l:IntKind)(b:Int):Option Aa:=
 (PK (binOp op 0 (.int k a) (.int l b))).bind λv=>match v with
  | .int k n=>some (.int k n)
  | .bool b=>some (.bool b)
  |_=>none
def dW(op:BinOp)(a b:Aq):Option Aa:=
 match op with
 | .add=>if a.length+b.length<=9223372036854775807 then some (.str (a++b)) else none
 | .eql=>some (.bool (a==b))
 | .neq=>some (.bool (!(a==b)))
 | .lss=>some (.bool (Op.bytesLess a b))
 | .leq=>some (.bool (Op.bytesLess a b||a==b))
 | .gtr=>some (.bool (!(Op.bytesLess a b||a==b)))
 | .geq=>some (.bool (!(Op.bytesLess a b)))
 |_=>none
def Lr:FK->Aa->Aa->Option Bool
 | .b,.bool a,.bool b=>some (a==b)
 | .i,.int k a,.int l b=>if k=l then some (a==b) else none
 | .s,.str a,.str b=>some (a==b)
 |_,_,_=>none
def D6:List FK->List Aa->List Aa->Option Bool
 |[],[],[]=>some true
 |k::ks,a::x,b::y=>match Lr k a b,D6 ks x y with
  |some e,some es=>some (e&&es)
  |_,_=>none
 |_,_,_=>none
def oZ:Aa->Aa->Option Bool
 | .ptr none,.ptr b=>some b.isNone
 | .ptr (some _),.ptr none=>some false
 | .ptr (some a),.ptr (some b)=>if a=b then some true else none
 | .ptr none,.Cq _=>some false
 | .Cq _,.ptr none=>some false
 |_,_=>none
def o7:NK->Aa->Aa->Option Bool
 | .sl,.slnil,.slnil=>some true
 | .sl,.slnil,.sl _ _=>some false
 | .sl,.sl _ _,.slnil=>some false
 | .sl,.slnil,.Gb _=>some false
 | .sl,.Gb _,.slnil=>some false
 | .sl,.slnil,.CD _ _ _ _=>some false
 | .sl,.CD _ _ _ _,.slnil=>some false
 | .fn,.nilFunc,.nilFunc=>some true
 | .fn,.nilFunc,.func _ _ _=>some false
 | .fn,.func _ _ _,.nilFunc=>some false
 | .mp,.map none,.map b=>some b.isNone
 | .mp,.map (some _),.map none=>some false
 |_,_,_=>none
def Ft(cs:List Aa)(off:Nat):Option Nat->Option Aa
 |none=>cs[off]?
 |some n=>if off+n<=cs.length then some (.agg ((cs.drop off).take n)) else none
def L3(n:Int)(len:Nat):Option Nat:=if 0<=n/\n<len then some n.toNat else none
def Fo(n:Int)(top:Nat):Option Nat:=if 0<=n/\n<=top then some n.toNat else none
def Ea(lo hi:Bool)(len:Nat)(as:List Aa):Option (Nat×Nat):=
 match lo,hi with
 |false,false=>match as with
  |[]=>some (0,len)
  |_=>none
 |false,true=>match as with
  |[.int _ h]=>(Fo h len).map λh=>(0,h)
  |_=>none
 |true,false=>match as with
  |[.int _ l]=>(Fo l len).map λl=>(l,len)
  |_=>none
 |true,true=>match as with
  |[.int _ l,.int _ h]=>(Fo h len).bind λh=>(Fo l h).map λl=>(l,h)
  |_=>none
def MH:List (List Aa)->Option Aq
 |[]=>some []
 |[.int .u8 n]::rs=>(MH rs).map λl=>n.toNat.toUInt8::l
 |_=>none
def Cg(s:Aq):List (List Aa):=s.map λb=>[.int .u8 b.toNat]
def DJ(size bytes:Nat)(s:Aa)(Az:List (List Aa)):Option Aa:=
 match Az with
 |[]=>match s with
  | .slnil=>some .slnil
  | .Gb z=>if z=size then some (.Gb z) else none
  | .sl z r=>if z=size then some (.sl z r) else none
  |_=>none
 |Az=>match s with
  | .slnil=>if Az.length*bytes<=AX then some (.sl size Az) else none
  | .Gb z=>if z=size/\Az.length*bytes<=AX then some (.sl size Az) else none
  | .sl z r=>if z=size/\(r.length+Az.length)*bytes<=AX then some (.sl size (r++Az)) else none
  |_=>none
def AR(cs:List Aa):List ((Nat×Nat)×Aa)->Option (List Aa)
 |[]=>some cs
 |((off,size),v)::rest=>if 0<size/\v.cells.length=size/\off+size<=cs.length then AR (cs.take off++v.cells++cs.drop (off+size)) rest else none
def Ę(k:IntKind)(n:Int):Option Aa:=
 (PK (Op.unary .xor (.int k n))).bind λv=>match v with
  | .int k n=>some (.int k n)
  |_=>none
def Ŭ:UnOp->Aa->Option Aa
 | .not,.bool b=>some (.bool (!b))
 | .neg,.int k n=>some (.int k (k.wrap (0 -n)))
 | .xor,.int k n=>Ę k n
 |_,_=>none
def VF(p:Aa)(off:Nat):Option Aa:=
 match p with
 | .Cq cs=>some (.Cq (cs.drop off))
 | .ptr (some (id,o))=>some (.ptr (some (id,o+off)))
 |_=>none
def elemOf(size:Nat)(s:Aa)(i:Int):Option Aa:=
 match s with
 | .sl z Az=>if z=size then(if 0<=i then(Az[i.toNat]?).map .Cq else none) else none
 | .CD id off len z=>if z=size then(L3 i len).map λi=> .ptr (some (id,off+i*size)) else none
 |_=>none
def lenOf(isStr:Bool)(s:Aa):Option Aa:=
 match s with
 | .sl _ Az=>if isStr then none else some (.int .i64 Az.length)
 | .CD _ _ n _=>if isStr then none else some (.int .i64 n)
 | .slnil=>if isStr then none else some (.int .i64 0)
 | .Gb _=>if isStr then none else some (.int .i64 0)
 | .str s=>if isStr then some (.int .i64 s.length) else none
 |_=>none
def HP(size bytes:Nat)(s x:Aa):Option Aa:=
 match x with
 | .slnil=>DJ size bytes s []
 | .Gb z=>if z=size then DJ size bytes s [] else none
 | .sl z Az=>if z=size then DJ size bytes s Az else none
 | .str x=>if size=1 then DJ size bytes s (Cg x) else none
 |_=>none
def J4(size:Nat)(isStr lo hi:Bool)(s:Aa)(as:List Aa):Option Aa:=
 match s with
 | .str s=>if isStr then(Ea lo hi s.length as).map λ(l,h)=> .str ((s.take h).drop l) else none
 | .sl z Az=>if isStr=false/\z=size then(Ea lo hi Az.length as).map λ(l,h)=> .sl z ((Az.take h).drop l) else none
 | .CD id off n z=>if isStr=false/\z=size then(Ea lo hi n as).bind λ(l,h)=>if l<n then some (.CD id (off+l*z) (h-l) z) else some (.sl z []) else none
 | .slnil=>if isStr then none else(Ea lo hi 0 as).map λ_=> .slnil
 |_=>none
def dX:Aa->Option Aa
 | .ptr (some p)=>some (.ptr (some p))
 | .Cq cs=>some (.Cq cs)
 | .func (.func f) a b=>some (.func (.func f) a b)
 |_=>none
def VG:Aa->Option Aa
 | .sl 1 Az=>(MH Az).map .str
 | .slnil=>some (.str [])
 |_=>none
def AB(p:X1)(args:List Aa):Option Aa:=
 match p with
 | .int op=>match args with
  |[.int k a,.int l b]=>oY op k a l b
  |_=>none
 | .str op=>match args with
  |[.str a,.str b]=>dW op a b
  |_=>none
 | .beq neg=>match args with
  |[.bool a,.bool b]=>some (.bool ((a==b) != neg))
  |_=>none
 | .geq neg ks=>match args with
  |[.agg a,.agg b]=>(D6 ks a b).map λe=> .bool (e != neg)
  |_=>none
 | .Rq neg=>match args with
  |[a,b]=>(oZ a b).map λe=> .bool (e != neg)
  |_=>none
 | .GC neg k=>match args with
  |[a,b]=>(o7 k a b).map λe=> .bool (e != neg)
  |_=>none
 | .un op=>match args with
  |[v]=>Ŭ op v
  |_=>none
 | .conv k=>match args with
  |[.int _ n]=>some (.int k (k.wrap n))
  |_=>none
 | .i2s=>match args with
  |[.int _ n]=>some (.str (Utf8.encode n).data.toList)
  |_=>none
 | .pick=>match args with
  |[.bool c,a,b]=>some (if c then a else b)
  |_=>none
 | .part off n=>match args with
  |[.agg cs]=>Ft cs off n
  |_=>none
 | .ū len size n=>match args with
  |[.agg cs,.int _ i]=>(L3 i len).bind λi=>Ft cs (i*size) n
  |_=>none
 | .Qd=>match args with
  |[.str s,.int _ i]=>if 0<=i then(s[i.toNat]?).map λb=> .int .u8 b.toNat else none
  |_=>none
 | .EN off=>match args with
  |[p]=>VF p off
  |_=>none
 | .FC size=>match args with
  |[s,.int _ i]=>elemOf size s i
  |_=>none
 | .TG len size=>match args with
  |[p,.int _ i]=>(L3 i len).bind λi=>VF p (i*size)
  |_=>none
 | .len isStr=>match args with
  |[s]=>lenOf isStr s
  |_=>none
 | .append size bytes=>match args with
  |[s,x]=>HP size bytes s x
  |_=>none
 | .HO size isStr lo hi=>match args with
  |s::as=>J4 size isStr lo hi s as
  |_=>none
 | .ext i=>match args with
  |[.tuple vs]=>vs[i]?
  |_=>none
 | .L2=>match args with
  |[v]=>dX v
  |_=>none
 | .BI size=>if args.all (λa=>a.cells.length==size)&&decide (args.length*size<=16777216) then some (.sl size (args.map (·.cells))) else none
 | .Gb size=>if args.isEmpty then some (.Gb size) else none
 | .BF zero places=>if places.length=args.length then(AR zero (places.zip args)).map .agg else none
 | .Lq isMax=>match args with
  |[.int k a,.int l b]=>if k=l then some (.int k (if isMax then(if b>a then b else a) else(if b<a then b else a))) else none
  |_=>none
 | .Ux=>match args with
  |[v]=>VG v
  |_=>none
 | .s2b=>match args with
  |[.str s]=>if s.length<=AX then some (.sl 1 (Cg s)) else none
  |_=>none
inductive Fp where
 |normal
 |exit (id:Nat)
 |ret
 deriving DecidableEq,Inhabited
inductive IT where
 |ret (x:Fp) (vs:List Aa)
 |fail
 |op (o:X1) (args:List Aa) (k:Aa->IT)
 |cells (n:Nat) (v:Aa) (k:List Aa->IT)
 |AE (c:Aa) (t e:IT)
 |load (n:Option Nat) (p:Aa) (k:Aa->IT)
 |store (n:Nat) (p v:Aa) (k:IT)
 |alloc (n:Nat) (v:Aa) (k:Aa->IT)
 |call (f:FuncId) (args:List Aa) (k:Aa->IT)
 |Es (fn:Aa) (args:List Aa) (k:Aa->IT)
 |Bk (f:FuncId) (args:List Aa) (k:Aa->IT)
 |loop (key:Nat) (init:List Aa) (body:List Aa->IT) (k:Fp->List Aa->IT)
 |Dz (key:Nat) (t:IT) (k:Fp->List Aa->IT)
 |same (a b:Aa) (k:IT)
 |Nf (k:Aa->IT)
 |HQ (m key v:Aa) (k:IT)
 |L4 (zero:Aa) (ok:Bool) (m key:Aa) (k:Aa->IT)
 |make (size bytes:Nat) (zero:List Aa) (len cap:Aa) (k:Aa->IT)
 |HR (size bytes:Nat) (s x:Aa) (k:Aa->IT)
 |Fe (s:Aa) (k:Aa->IT)
 |LK (v:Aa) (k:Aa->IT)
 |HE (off:Nat) (p:Aa) (k:IT)
 |FN (size bytes:Nat) (s x:Aa) (k:Aa->IT)
 |GA (size bytes:Nat) (s x:Aa) (k:Aa->IT)
 |mem (o:bw) (args:List Aa) (k:Aa->IT)
 |o8 (f:FuncId) (args:List Aa) (k:Aa->IT)
 deriving Inhabited
def Aa.ME:Aa->Bool
 | .bool _| .int _ _| .str _=>true
 |_=>false
def Bg(h:Ah)(n:Option Nat):Aa->Option Aa
 | .Cq cs=>Ft cs 0 n
 | .ptr (some (id,off))=>match h[id]? with
  |some (.cells cs)=>Ft cs off n
  |_=>none
 |_=>none
def Cw(h:Ah)(n:Nat)(p v:Aa):Option Ah:=
 match p with
 | .ptr (some (id,off))=>match h[id]? with
  |some (.cells cs)=>if v.cells.length=n/\off+n<=cs.length then some (h.set id (.cells (cs.take off++v.cells++cs.drop (off+n)))) else none
  |_=>none
 |_=>none
def VH(h:Ah)(n:Nat)(v:Aa):Option (Ah×Aa):=
 if v.cells.length=n then some (h++[.cells v.cells],.ptr (some (h.length,0))) else none
def VI(s:Aq):List (Aa×Aa)->Option (Option Aa)
 |[]=>some none
 |(.str t,v)::es=>if s=t then some (some v) else VI s es
 |_=>none
def ON(s:Aq)(v:Aa):List (Aa×Aa)->Option (List (Aa×Aa))
 |[]=>some [(.str s,v)]
 |(.str t,v')::es=>if s=t then some ((.str s,v)::es) else(ON s v es).map λes=>(.str t,v')::es
 |_=>none
def TH(h:Ah)(m k v:Aa):Option Ah:=
 match m,k with
 | .map (some id),.str s=>match h[id]? with
  |some (.map es)=>(ON s v es).map λes=>h.set id (.map es)
  |_=>none
 |_,_=>none
def VJ(h:Ah)(m k:Aa):Option (Option Aa):=
 match m,k with
 | .map none,.str _=>some none
 | .map (some id),.str s=>match h[id]? with
  |some (.map es)=>VI s es
  |_=>none
 |_,_=>none
def TI(h:Ah)(zero:Aa)(ok:Bool)(m k:Aa):Option Aa:=
 (VJ h m k).map λr=>match r with
  |some v=>if ok then .tuple [v,.bool true] else v
  |none=>if ok then .tuple [zero,.bool false] else zero
def Rr(h:Ah)(size bytes:Nat)(zero:List Aa):Aa->Aa->Option (Ah×Aa)
 | .int .i64 n,.int .i64 c=>if 0<=n/\n<=c/\c.toNat*bytes<=AX/\zero.length=size then
  some (h++[.cells (List.replicate c.toNat zero).flatten],.CD h.length 0 n.toNat size) else none
 |_,_=>none
def OX(size:Nat):Aa->Bool
 | .slnil=>true
 | .Gb z=>z==size
 | .sl z []=>z==size
 |_=>false
def KB(h:Ah)(size bytes:Nat)(s:Aa):Aa->Option (Ah×Aa)
 | .sl z Az=>if OX size s then(match Az with
   |[]=>some (h,s)
   |Az=>if z=size/\Az.length*bytes<=AX then some (h++[.cells Az.flatten],.CD h.length 0 Az.length size) else none)
  else none
 | .slnil=>if OX size s then some (h,s) else none
 | .Gb z=>if OX size s&&z==size then some (h,s) else none
 |_=>none
def IN(h:Ah):Aa->Option (Ah×Aa)
 | .str s=>if s.length<=AX then some (h++[.cells (s.map λb=> .int .u8 b.toNat)],.CD h.length 0 s.length 1) else none
 |_=>none
def Cz(cs:List Aa)(z:Nat):Nat->Nat->List (List Aa)
 |_,0=>[]
 |off,n+1=>(cs.drop off).take z::Cz cs z (off+z) n
def Kq(h:Ah):Aa->Option (Ah×Aa)
 | .CD id off n z=>match h[id]? with
  |some (.cells cs)=>if off+n*z<=cs.length then some (h.set id .CT,.sl z (Cz cs z off n)) else none
  |_=>none
 |v=>some (h,v)
def L5(h:Ah)(off:Nat)(p:Aa):Option Ah:=
 match p with
 | .ptr none=>some h
 | .ptr (some (id,o))=>match h[id]? with
  |some (.cells cs)=>match cs[o+off]? with
   |some v=>(Kq h v).bind λ(h',v')=>match h'[id]? with
    |some (.cells GW)=>some (h'.set id (.cells (GW.set (o+off) v')))
    |_=>none
   |none=>none
  |_=>none
 |_=>none
def GX(h:Ah)(size:Nat):Aa->Option (List (List Aa))
 | .slnil=>some []
 | .Gb z=>if z=size then some [] else none
 | .sl z Az=>if z=size then some Az else none
 | .str s=>if size=1 then some (Cg s) else none
 | .CD id off n z=>if z=size then match h[id]? with
   |some (.cells cs)=>if off+n*z<=cs.length then some (Cz cs z off n) else none
   |_=>none
  else none
 |_=>none
def F9(h:Ah)(size bytes:Nat)(s x:Aa):Option (Ah×Aa):=
 match GX h size x with
 |none=>none
 |some []=>match s with
  | .slnil=>some (h,s)
  | .Gb z=>if z=size then some (h,s) else none
  | .CD _ _ _ z=>if z=size then some (h,s) else none
  |_=>none
 |some Az=>match s with
  | .slnil=>if Az.length*bytes<=AX then some (h++[.cells Az.flatten],.CD h.length 0 Az.length size) else none
  | .Gb z=>if z=size/\Az.length*bytes<=AX then some (h++[.cells Az.flatten],.CD h.length 0 Az.length size) else none
  | .CD id off n z=>match h[id]? with
   |some (.cells cs)=>if z=size then
     (if off+(n+Az.length)*z<=cs.length then some (h.set id (.cells (cs.take (off+n*z)++Az.flatten++cs.drop (off+(n+Az.length)*z))),.CD id off (n+Az.length) z)
     else if off=0/\n*z<=cs.length/\(n+Az.length)*bytes<=AX then some (h.set id .CT++[.cells (cs.take (n*z)++Az.flatten)],.CD h.length 0 (n+Az.length) z) else none)
    else none
   |_=>none
  |_=>none
def Qn(h:Ah)(size bytes:Nat)(s x:Aa):Option Aa:=(GX h size x).bind (DJ size bytes s)
def o9(h:Ah)(size:Nat)(d x:Aa):Option (Ah×Aa):=
 match GX h size x with
 |none=>none
 |some Az=>match d with
  | .slnil=>if Az.length=0 then some (h,.int .i64 0) else none
  | .CD id off n z=>match h[id]? with
   |some (.cells cs)=>if z=size/\Az.length<=n/\off+n*z<=cs.length then some (h.set id (.cells (cs.take off++Az.flatten++cs.drop (off+Az.length*z))),.int .i64 Az.length) else none
   |_=>none
  |_=>none
def VK(h:Ah)(size:Nat)(zero:List Aa):Aa->Option (Ah×Aa)
 | .slnil=>some (h,.bool true)
 | .CD id off n z=>match h[id]? with
  |some (.cells cs)=>if z=size/\zero.length=size/\off+n*z<=cs.length then some (h.set id (.cells (cs.take off++(List.replicate n zero).flatten++cs.drop (off+n*z))),.bool true) else none
  |_=>none
 |_=>none
def dY(h:Ah)(size:Nat)(lo hi:Bool)(s:Aa)(as:List Aa):Option (Ah×Aa):=
 match s with
 | .CD id off n z=>match h[id]? with
  |some (.cells cs)=>if z=size/\hi=true/\off<=cs.length then(Ea lo hi ((cs.length-off)/z) as).bind λ(l,r)=>if l<(cs.length-off)/z then some (h,.CD id (off+l*z) (r-l) z) else none else none
  |_=>none
 |_=>none
def VL(size:Nat):List Aa->Bool
 |[s,.int _ l,.int _ r,.int _ m]=>match s with
  | .CD _ _ n z=>z=size&&decide (0<=l)&&decide (l<=r)&&decide (r<=m)&&decide (m<=n)
  | .sl z Az=>z=size&&decide (0<=l)&&decide (l<=r)&&decide (r<=m)&&decide (m<=Az.length)
  |_=>false
 |_=>false
def Ls(k:Int):List (Aa×Aa)->Nat->Option (Option (Nat×Aa))
 |[],_=>some none
 |(.int .i64 t,v)::es,i=>if k=t then some (some (i,v)) else Ls k es (i+1)
 |_,_=>none
def jY(zero:Aa)(ok:Bool):Option (Nat×Aa)->Aa
 |some (_,v)=>if ok then .tuple [v,.bool true] else v
 |none=>if ok then .tuple [zero,.bool false] else zero
def pA(h:Ah)(zero:Aa)(ok:Bool)(m k:Aa):Option (Ah×Aa):=
 match m,k with
 | .map none,.int .i64 _=>some (h,jY zero ok none)
 | .map (some id),.int .i64 n=>match h[id]? with
  |some (.map es)=>(Ls n es 0).map λr=>(h,jY zero ok r)
  |_=>none
 |_,_=>none
def Vd(h:Ah)(zero m k:Aa):Option (Ah×Aa):=
 match m,k with
 | .map (some id),.int .i64 n=>match h[id]? with
  |some (.map es)=>(Ls n es 0).map λr=>match r with
   |some (i,v)=>(h,.tuple [v,.int .i64 i])
   |none=>(h.set id (.map (es++[(k,zero)])),.tuple [zero,.int .i64 es.length])
  |_=>none
 |_,_=>none
def VM(k:Aq):List (Aa×Aa)->Nat->Option (Option (Nat×Aa))
 |[],_=>some none
 |(.str t,v)::es,i=>if k=t then some (some (i,v)) else VM k es (i+1)
 |_,_=>none
def ZQ(h:Ah)(zero m k:Aa):Option (Ah×Aa):=
 match m,k with
 | .map (some id),.str n=>match h[id]? with
  |some (.map es)=>(VM n es 0).map λr=>match r with
   |some (i,v)=>(h,.tuple [v,.int .i64 i])
   |none=>(h.set id (.map (es++[(k,zero)])),.tuple [zero,.int .i64 es.length])
  |_=>none
 |_,_=>none
def Ve(h:Ah)(m i v:Aa):Option (Ah×Aa):=
 match m,i with
 | .map (some id),.int .i64 n=>match h[id]? with
  |some (.map es)=>if 0<=n then match es[n.toNat]? with
   |some (k,_)=>some (h.set id (.map (es.set n.toNat (k,v))),.bool true)
   |none=>none
   else none
  |_=>none
 |_,_=>none
def b_(h:Ah)(m k v:Aa):Option (Ah×Aa):=
 match m,k with
 | .map (some id),.int .i64 n=>match h[id]? with
  |some (.map es)=>match Ls n es 0 with
   |some none=>some (h.set id (.map (es++[(.int .i64 n,v)])),.bool true)
   |_=>none
  |_=>none
 |_,_=>none
def PL(h:Ah):List Aa->Option (Ah×Aa)
 |[.slnil,.int .i64 i,.sl 1 [[.int .i64 x]]]=>if i=0 then some (h++[.cells [.int .i64 x]],.CD h.length 0 1 1) else none
 |[.CD id 0 n 1,.int .i64 i,.sl 1 [[.int .i64 x]]]=>match h[id]? with
  |some (.cells cs)=>if 0<=i/\i.toNat<=n/\n<=cs.length/\(n+1)*8<=AX then some (h.set id .CT++[.cells (cs.take i.toNat++[.int .i64 x]++(cs.take n).drop i.toNat)],.CD h.length 0 (n+1) 1) else none
  |_=>none
 |_=>none
def E5(o:bw)(h:Ah)(args:List Aa):Option (Ah×Aa):=
 match o with
 | .copy size=>match args with
  |[d,x]=>o9 h size d x
  |_=>none
 | .clear size zero=>match args with
  |[s]=>VK h size zero s
  |_=>none
 | .wR size lo hi=>match args with
  |s::as=>dY h size lo hi s as
  |_=>none
 | .jX size=>if VL size args then some (h,.bool true) else none
 | .aE9 t=>match args with
  |[v]=>some (h,.iface t v)
  |_=>none
 | .bz zero ok=>match args with
  |[m,k]=>pA h zero ok m k
  |_=>none
 | .NU zero=>match args with
  |[m,k]=>Vd h zero m k
  |_=>none
 | .ZP zero=>match args with
  |[m,k]=>ZQ h zero m k
  |_=>none
 | .Lp=>match args with
  |[m,i,v]=>Ve h m i v
  |_=>none
 | .Uw=>match args with
  |[m,k,v]=>b_ h m k v
  |_=>none
 | .wS=>PL h args
 | .QL g=>g h args
def EE(f:FuncId):FuncId:=if f<=99999 then f else f%100000
def DC:Aa->List Aa->Option (FuncId×List Aa)
 | .func (.func f) first captured,args=>if f<=99999 then some (f,first++args++captured) else none
 |_,_=>none
abbrev J1:=Fp×List Aa×Ah
def IT.step(fn:FuncId->List Aa->IT)(rec:IT->Ah->Option J1):IT->Ah->Option J1
 | .ret x vs,h=>some (x,vs,h)
 | .fail,_=>none
 | .op o args k,h=>match AB o args with
  |some v=>IT.step fn rec (k v) h
  |none=>none
 | .cells n v k,h=>if v.cells.length=n then IT.step fn rec (k v.cells) h else none
 | .AE c t e,h=>match c with
  | .bool true=>IT.step fn rec t h
  | .bool false=>IT.step fn rec e h
  |_=>none
 | .load n p k,h=>match Bg h n p with
  |some v=>IT.step fn rec (k v) h
  |none=>none
 | .store n p v k,h=>match Cw h n p v with
  |some h'=>IT.step fn rec k h'
  |none=>none
 | .alloc n v k,h=>match VH h n v with
  |some (h',p)=>IT.step fn rec (k p) h'
  |none=>none
 | .call f args k,h=>match rec (fn f args) h with
  |some (.ret,[r],h')=>IT.step fn rec (k r) h'
  |_=>none
 | .Es g args k,h=>match DC g args with
  |some (f,args)=>match rec (fn f args) h with
   |some (.ret,[r],h')=>IT.step fn rec (k r) h'
   |_=>none
  |none=>none
 | .Bk f args k,h=>if args.all Aa.ME then match rec (fn f args) [] with
   |some (.ret,[r],_)=>if r.ME then IT.step fn rec (k r) h else none
   |_=>none
  else none
 | .loop key init body k,h=>match IT.step fn rec (body init) h with
  |some (.normal,vs,h')=>rec (.loop key vs body k) h'
  |some (x,vs,h')=>IT.step fn rec (k x vs) h'
  |none=>none
 | .Dz _ t k,h=>match IT.step fn rec t h with
  |some (x,vs,h')=>IT.step fn rec (k x vs) h'
  |none=>none
 | .same a b k,h=>if Aa.beq a b then IT.step fn rec k h else none
 | .Nf k,h=>IT.step fn rec (k (.map (some h.length))) (h++[.map []])
 | .HQ m key v k,h=>match TH h m key v with
  |some h'=>IT.step fn rec k h'
  |none=>none
 | .L4 zero ok m key k,h=>match TI h zero ok m key with
  |some v=>IT.step fn rec (k v) h
  |none=>none
 | .make size bytes zero len cap k,h=>match Rr h size bytes zero len cap with
  |some (h',v)=>IT.step fn rec (k v) h'
  |none=>none
 | .HR size bytes s x k,h=>match KB h size bytes s x with
  |some (h',v)=>IT.step fn rec (k v) h'
  |none=>none
 | .Fe s k,h=>match IN h s with
  |some (h',v)=>IT.step fn rec (k v) h'
  |none=>none
 | .LK v k,h=>match Kq h v with
  |some (h',v')=>IT.step fn rec (k v') h'
  |none=>none
 | .HE off p k,h=>match L5 h off p with
  |some h'=>IT.step fn rec k h'
  |none=>none
 | .FN size bytes s x k,h=>match F9 h size bytes s x with
  |some (h',v)=>IT.step fn rec (k v) h'
  |none=>none
 | .GA size bytes s x k,h=>match Qn h size bytes s x with
  |some v=>IT.step fn rec (k v) h
  |none=>none
 | .mem o args k,h=>match E5 o h args with
  |some (h',v)=>IT.step fn rec (k v) h'
  |none=>none
 | .o8 f args k,h=>match rec (fn f args) [] with
  |some (.ret,[r],_)=>if r.ME then IT.step fn rec (k r) h else none
  |_=>none
def IT.run(fn:FuncId->List Aa->IT):Nat->IT->Ah->Option J1
 |0=>λ_ _=>none
 |n+1=>IT.step fn (IT.run fn n)
end Go.Am
end
section
namespace Go.Am
inductive Sh where
 |val
 |Bw
 |box (n:Nat) (Bw:List Nat)
 deriving Inhabited
inductive pB where
 |OY|heap
 deriving DecidableEq,Inhabited
structure FZ where
 P:Program
 ŭ:FuncId->Nat->List (Nat×Sh)
 ę:FuncId->Nat->Option (List (Nat×Sh))
 Ě:FuncId->Nat->Option (List (Nat×Sh))
 kind:FuncId->Nat->pB
 Jb:FuncId->Bool
 ě:FuncId->Bool
 wT:FuncId->Nat->Bool
 VN:FuncId->Nat->Bool
 cf:FuncId->Bool
 cg:FuncId->List (Nat×Nat)
 GY:Nat->Option (List Aa)
 Ů:FuncId->Option (List Aa->IT)
 alt:FuncId->FuncId->FuncId
 Nb:FuncId->Bool
inductive EO where
 |pure (ws:List (Nat×Er))
 |op (p:X1) (args:List Aa) (dst:Option Nat) (Bw:Bool) (DO:Option (Nat×Aa))
 |box (n:Nat) (v:Aa) (dst:Nat)
 |closure (fn:Fn) (first captured:List Aa) (froze:List (Nat×List Aa)) (dst:Nat)
 |MY (s off n:Nat) (v:Aa) (Bw:Bool) (DO:Option (Nat×Aa)) (ver:Nat) (cells:List Aa) (owned:List Nat)
 |load (n:Option Nat) (p:Aa) (dst:Option Nat)
 |store (n:Nat) (p v:Aa)
 |alloc (n:Nat) (v:Aa) (dst:Option Nat)
 |call (f:FuncId) (args:List Aa) (dst:Option Nat)
 |Es (g:Aa) (args:List Aa) (dst:Option Nat)
 |Bk (f:FuncId) (args:List Aa) (dst:Option Nat)
 |Nf (dst:Option Nat)
 |HQ (m k v:Aa)
 |L4 (zero:Aa) (ok:Bool) (m k:Aa) (dst:Option Nat)
 |make (size bytes:Nat) (zero:List Aa) (len cap:Aa) (dst:Option Nat)
 |HR (size bytes:Nat) (s x:Aa) (dst:Option Nat) (DO:Option (Nat×Aa))
 |FN (size bytes:Nat) (s x:Aa) (dst:Option Nat)
 |GA (size bytes:Nat) (s x:Aa) (dst:Option Nat) (DO:Option (Nat×Aa))
 |Fe (s:Aa) (dst:Option Nat)
 |Ux (v:Aa) (dst:Option Nat)
 |mem (o:bw) (args:List Aa) (dst:Option Nat)
def B6(P:Program)(t:TypeId):Option Nat:=(P.info? t).map (·.size)
def J5(P:Program)(t:TypeId):Option Nat:=(P.info? t).map (·.bytes)
def Fs(P:Program)(t:TypeId):Option (Option Nat):=
 match P.underlying t with
 |some (.struct _)|some (.array _ _)=>(B6 P t).map some
 |some _=>some none
 |none=>none
def GZ(P:Program)(t:TypeId):Option Aa:=((P.info? t).bind (·.zero)).bind KQ
def VO(rec:TypeId->Option (List FK)):List Field->Nat->Option (List FK)
 |[],_=>some []
 |f::fs,off=>if f.name≠ "_"/\f.offset=off then match rec f.type with
   |some ks=>(VO rec fs (off+ks.length)).map (ks++·)
   |none=>none
  else none
def OZ(P:Program):Nat->TypeId->Option (List FK)
 |0,_=>none
 |d+1,t=>
  let one (k:FK):Option (List FK):=if B6 P t=some 1 then some [k] else none
  match P.underlying t with
  |some .bool=>one .b
  |some (.int _)=>one .i
  |some .string=>one .s
  |some (.struct fs)=>match VO (OZ P d) fs.toList 0 with
   |some ks=>if B6 P t=some ks.length/\P.stoodInHeld t=false then some ks else none
   |none=>none
  |_=>none
def Iu(P:Program)(s:TypeId)(f:Nat):Option (Nat×Option Nat):=
 match P.underlying s with
 |some (.struct fs)=>match fs[f]? with
  |some fd=>match B6 P fd.type,Fs P fd.type with
   |some (_+1),some sh=>some (fd.offset,sh)
   |_,_=>none
  |none=>none
 |_=>none
def Ed(C:FZ)(U:BW):Operand->Option Er
 | .tmp t=>some (U.at t)
 | .const (.bool b)=>some (.OM b)
 | .const (.slice none 0 0)=>some (.Bw .slnil)
 | .const v=>(KQ v).map .val
 | .global g=>(C.GY g).map λcs=> .val (.Cq cs)
 | .func f=>some (.val (.func (.func f) [] []))
def E6(C:FZ)(U:BW)(x:Operand):Option Aa:=(Ed C U x).bind Er.Ho
def BC(C:FZ)(U:BW):List Operand->Option (List Aa)
 |[]=>some []
 |x::xs=>match E6 C U x,BC C U xs with
  |some v,some vs=>some (v::vs)
  |_,_=>none
def cj(ops:List Oper)(d:Nat):Bool:=
 ops.any λo=>match o.op with
  | .call c=>(match c.callee with| .builtin .append=>true|_=>false)&&(match(c.args[0]?:Option Operand) with|some (.tmp t)=>t==d|_=>false)
  |_=>false
def Iv:Er->Option Er
 | .val v=>some (.val v)
 | .OM b=>some (.OM b)
 | .Bw v=>some (.val v)
 | .Fl s o=>some (.Fl s o)
 |_=>none
def Rs(x:Operand)(v:Aa):List (Nat×Er):=
 match x with
 | .tmp s=>[(s,.val v)]
 |_=>[]
def KC(C:FZ)(U:BW)(x:Operand)(d:Nat)(take:Bool):Option EO:=
 match x,Ed C U x with
 | .tmp s,some (.box _ _ _)=>some (.pure [(d,.Fl s 0)])
 | .const _,some sl=>some (.pure [(d,sl)])
 |x,some (.Bw v)=>if take then some (.pure (Rs x v++[(d,.Bw v)])) else(Iv (.Bw v)).map λs=> .pure [(d,s)]
 |_,some s=>(Iv s).map λs=> .pure [(d,s)]
 |_,none=>none
def VP(cs:List Aa):List Nat:=(List.range cs.length).filter λi=>match cs.getD i .nilIface with| .slnil=>true|_=>false
def MZ(U:BW)(ds:List Nat):Bool:=U.all λs=>match s with| .Fl s _=> !ds.contains s|_=>true
def BW.drop(U:BW)(ds:List Nat):BW:=match ds with|[]=>U|ds=>U.map λs=>match s with| .Fl s o=>if ds.contains s then .undef else .Fl s o|s=>s
def TJ(C:FZ)(fid:FuncId)(t:TypeId)(v:Aa)(d:Nat):Option EO:=
 match B6 C.P t with
 |none=>none
 |some n=>if n=0 then none else match C.kind fid d with
  | .OY=>some (.box n v d)
  | .heap=>some (.alloc n v (some d))
inductive ů where
 |OY (s off ver:Nat) (cells:List Aa) (Bw:List Nat)
 |ptr (p:Aa)
def Gj(C:FZ)(U:BW)(x:Operand):Option ů:=
 match x,Ed C U x with
 | .tmp s,some (.box ver cs ow)=>some (.OY s 0 ver cs ow)
 |_,some (.Fl s o)=>match U.at s with
  | .box ver cs ow=>some (.OY s o ver cs ow)
  |_=>none
 |_,some s=>s.Ho.map .ptr
 |_,none=>none
def Dk(U:BW):Operand->Option (Nat×Aa)
 | .tmp s=>match U.at s with
  | .Bw v=>some (s,v)
  |_=>none
 |_=>none
def K0(C:FZ)(U:BW)(x:Operand):Bool:=match Ed C U x with|some (.Bw _)=>true|_=>false
def Lt(C:FZ)(U:BW)(t:TypeId)(x:Operand)(d:Nat)(take:Bool):Option EO:=
 match Fs C.P t,Gj C U x with
 |some n,some (.ptr p)=>some (.load n p (some d))
 |some none,some (.OY s o ver cs ow)=>
  if o<cs.length then
   let v:=cs.getD o .nilIface
   if ow.contains o&& !(ow.erase o).contains o&&take then some (.pure [(s,.box (ver+1) cs (ow.erase o)),(d,.Bw v)])
   else some (.pure [(d,.val v)])
  else none
 |some (some n),some (.OY _ o _ cs _)=>if o+n<=cs.length then some (.pure [(d,.val (.agg ((cs.drop o).take n)))]) else none
 |_,_=>none
def Jw(C:FZ)(U:BW)(t:TypeId)(x y:Operand):Option EO:=
 match B6 C.P t,Fs C.P t,Gj C U x,E6 C U y with
 |some (n+1),_,some (.ptr p),some v=>some (.store (n+1) p v)
 |some (n+1),some sh,some (.OY s o ver cs ow),some v=>
  if o+(n+1)<=cs.length then
   let Bw:=sh.isNone&&K0 C U y
   some (.MY s o (n+1) v Bw (if Bw then Dk U y else none) ver cs ow)
  else none
 |_,_,_,_=>none
def SR(P:Program)(t:TypeId)(neg:Bool)(u:TypeDesc):Option X1:=
 match u with
 | .bool=>some (.beq neg)
 | .struct _=>if P.eqGuardType P.depth t=false then(OZ P 20 t).map (.geq neg) else none
 | .pointer e=>if(B6 P e).getD 0=0 then none else some (.Rq neg)
 | .slice _=>some (.GC neg .sl)
 | .func _ _ _=>some (.GC neg .fn)
 | .map _ _=>some (.GC neg .mp)
 |_=>none
def PM(P:Program)(op:BinOp)(t:TypeId):Option X1:=
 match P.underlying t with
 |some (.int _)=>some (.int op)
 |some .string=>some (.str op)
 |some u=>match op with
  | .eql=>SR P t false u
  | .neq=>SR P t true u
  |_=>none
 |none=>none
def SU(p:X1)(dst:Option Nat):Option (List Aa)->Option EO
 |some args=>some (.op p args dst false none)
 |none=>none
def J6(P:Program)(t:TypeId):List (Nat×Operand)->Option (List (Nat×Nat))
 |[]=>some []
 |(i,_)::rest=>match P.underlying t with
  |some (.struct fs)=>match fs[i]? with
   |some f=>match B6 P f.type,J6 P t rest with
    |some n,some r=>some ((f.offset,n)::r)
    |_,_=>none
   |none=>none
  |some (.array len e)=>if i<len then match B6 P e,J6 P t rest with
    |some n,some r=>some ((i*n,n)::r)
    |_,_=>none
   else none
  |_=>none
def L6(P:Program)(t:TypeId):Bool:=
 match P.info? t with
 |some i=>match i.zero with
  |some z=>z.cells.size==i.size
  |none=>false
 |none=>false
def Vf(P:Program)(t:TypeId):Bool:=
 match P.underlying t with
 |some (.struct fs)=>fs.toList.all λf=>(B6 P f.type).isSome
 |some (.array _ e)=>(B6 P e).isSome
 |_=>false
def SV(o:bw)(dst:Option Nat):Option (List Aa)->Option EO
 |some args=>some (.mem o args dst)
 |none=>none
def QM(C:FZ)(fid:FuncId)(U:BW)(c:Call)(dst:Option Nat):Option EO:=
 match c.callee with
 | .builtin .len=>match c.argTypes[0]? with
  |some t=>match C.P.underlying t with
   |some .string=>SU (.len true) dst (BC C U c.args.toList)
   |some (.slice _)=>SU (.len false) dst (BC C U c.args.toList)
   |_=>none
  |none=>none
 | .builtin .append=>match c.argTypes[0]?,c.argTypes[1]?,c.args.toList with
  |some t,some t',[s,x]=>match C.P.underlying t,C.P.underlying t' with
   |some (.slice e),some (.slice _)|some (.slice e),some .string=>match B6 C.P e,J5 C.P e with
    |some (n+1),some (b+1)=>if L6 C.P e then match BC C U [s,x] with
      |some [v,u]=>if K0 C U s then
        (if(dst.map (C.wT fid)).getD false then some (.HR (n+1) (b+1) v u dst (Dk U s))
        else if(dst.map (C.VN fid)).getD false then some (.GA (n+1) (b+1) v u dst (Dk U s))
        else some (.op (.append (n+1) (b+1)) [v,u] dst true (Dk U s)))
       else if(dst.map (C.wT fid)).getD false then some (.FN (n+1) (b+1) v u dst) else none
      |_=>none
     else none
    |_,_=>none
   |_,_=>none
  |_,_,_=>none
 | .builtin .copy=>match c.argTypes[0]?,c.argTypes[1]?,c.args.toList with
  |some t,some t',[s,x]=>match C.P.underlying t,C.P.underlying t' with
   |some (.slice e),some (.slice _)|some (.slice e),some .string=>match B6 C.P e with
    |some (n+1)=>SV (.copy (n+1)) dst (BC C U [s,x])
    |_=>none
   |_,_=>none
  |_,_,_=>none
 | .builtin .clear=>match c.argTypes[0]?,c.args.toList with
  |some t,[s]=>match C.P.underlying t with
   |some (.slice e)=>match B6 C.P e,GZ C.P e with
    |some (n+1),some z=>SV (.clear (n+1) z.cells) dst (BC C U [s])
    |_,_=>none
   |_=>none
  |_,_=>none
 | .builtin .max=>if c.args.size=2 then SU (.Lq true) dst (BC C U c.args.toList) else none
 | .builtin .min=>if c.args.size=2 then SU (.Lq false) dst (BC C U c.args.toList) else none
 | .value (.func f)=>if C.Nb f then(match c.args.toList with
  |[s,i,v]=>if K0 C U v then SV .wS dst (BC C U [s,i,v]) else none
  |_=>none) else if EE (C.alt fid f)=f then(BC C U c.args.toList).map λargs=>if C.ě (C.alt fid f) then .Bk (C.alt fid f) args dst else .call (C.alt fid f) args dst else none
 | .value g=>match E6 C U g,BC C U c.args.toList with
  |some g,some args=>some (.Es g args dst)
  |_,_=>none
 |_=>none
def VQ(C:FZ)(src dst:TypeId):Option (Option X1):=
 match C.P.underlying src,C.P.underlying dst with
 |some (.int _),some (.int k)=>some (some (.conv k))
 |some (.int _),some .string=>some (some .i2s)
 |some .string,some .string=>some none
 |some (.slice e),some .string=>match C.P.underlying e with
  |some (.int .u8)=>some (some .Ux)
  |_=>none
 |some .string,some (.slice e)=>match C.P.underlying e,B6 C.P e,J5 C.P e with
  |some (.int .u8),some 1,some 1=>some (some .s2b)
  |_,_,_=>none
 |_,_=>none
def Gk(C:FZ)(U:BW):List Operand->Option (List Aa×List (Nat×List Aa))
 |[]=>some ([],[])
 |x::xs=>match Gk C U xs with
  |none=>none
  |some (vs,fz)=>match x,Ed C U x with
   | .tmp s,some (.box _ cs _)=>if(fz.map (·.1)).contains s then none else some (.Cq cs::vs,(s,cs)::fz)
   |_,some sl=>match sl.Ho with
    |some v=>some (v::vs,fz)
    |none=>none
   |_,none=>none
def Gl(C:FZ)(fid:FuncId)(ops:List Oper)(U:BW)(o:Oper):Option EO:=
 match o.op with
 | .move x=>match o.dst with
  |some d=>KC C U x d (cj ops d)
  |none=>none
 | .assign x=>match o.dst with
  |some d=>KC C U x d true
  |none=>none
 | .pick c a b=>match Ed C U c,o.dst with
  |some (.OM true),some d=>KC C U a d false
  |some (.OM false),some d=>KC C U b d false
  |_,dst=>SU .pick dst (BC C U [c,a,b])
 | .alloc t=>match o.dst,GZ C.P t with
  |some d,some z=>match C.kind fid d with
   | .OY=>if B6 C.P t=some z.cells.length/\z.cells≠[] then some (.pure [(d,.box 0 z.cells (VP z.cells))]) else none
   |_=>TJ C fid t z d
  |_,_=>none
 | .box t x=>match o.dst,E6 C U x with
  |some d,some v=>TJ C fid t v d
  |_,_=>none
 | .build t parts=>match GZ C.P t,J6 C.P t parts.toList with
  |some z,some ps=>if Vf C.P t then SU (.BF z.cells ps) o.dst (BC C U (parts.toList.map (·.2))) else none
  |_,_=>none
 | .buildSlice t len parts=>match C.P.underlying t with
  |some (.slice e)=>match B6 C.P e with
   |some (n+1)=>if parts.toList.map (·.1)=List.range len/\L6 C.P e=true then if len=0/\(o.dst.map (C.wT fid)).getD false=true then some (.op (.Gb (n+1)) [] o.dst true none) else(BC C U (parts.toList.map (·.2))).map λargs=> .op (.BI (n+1)) args o.dst true none else none
   |_=>none
  |_=>none
 | .load t x=>match o.dst with
  |some d=>Lt C U t x d (cj ops d)
  |none=>none
 | .store t x y=>match o.dst with
  |none=>Jw C U t x y
  |some _=>none
 | .nilCheck x=>match x,Ed C U x,o.dst with
  | .tmp s,some (.box _ _ _),some d=>some (.pure [(d,.Fl s 0)])
  |_,some (.Fl s k),some d=>some (.pure [(d,.Fl s k)])
  |x,_,dst=>SU .L2 dst (BC C U [x])
 | .binOp op t x y _=>match PM C.P op t with
  |some p=>SU p o.dst (BC C U [x,y])
  |none=>none
 | .unOp op _ x=>SU (.un op) o.dst (BC C U [x])
 | .convert src dst x=>match VQ C src dst with
  |some (some .Ux)=>(E6 C U x).map λv=> .Ux v o.dst
  |some (some .s2b)=>if(o.dst.map (C.wT fid)).getD false then(E6 C U x).map λv=> .Fe v o.dst else SU .s2b o.dst (BC C U [x])
  |some (some p)=>SU p o.dst (BC C U [x])
  |_=>none
 | .makeFunc fn first captured=>match o.dst,BC C U first.toList,Gk C U captured.toList with
  |some d,some a,some (b,fz)=>some (.closure fn a b fz d)
  |_,_,_=>none
 | .makeMap _ none=>some (.Nf o.dst)
 | .makeSlice t l c=>match C.P.underlying t with
  |some (.slice e)=>match B6 C.P e,J5 C.P e,GZ C.P e,E6 C U l,E6 C U c with
   |some (n+1),some (b+1),some z,some l,some c=>some (.make (n+1) (b+1) z.cells l c o.dst)
   |_,_,_,_,_=>none
  |_=>none
 | .insert t m k v| .mapUpdate t m k v=>match C.P.underlying t with
  |some (.map kt _)=>match o.dst,C.P.underlying kt,BC C U [m,k,v] with
   |none,some .string,some [m,k,v]=>some (.HQ m k v)
   |none,some (.int .i64),some [m,k,v]=>some (.mem .Uw [m,k,v] none)
   |_,_,_=>none
  |_=>none
 | .lookup t m k ok=>match C.P.underlying t with
  |some (.map kt e)=>match C.P.underlying kt,GZ C.P e,BC C U [m,k] with
   |some .string,some z,some [m,k]=>some (.L4 z ok m k o.dst)
   |some (.int .i64),some z,some [m,k]=>some (.mem (.bz z ok) [m,k] o.dst)
   |_,_,_=>none
  |_=>none
 | .slice t x (some lo) (some hi) (some mx)=>match C.P.underlying t with
  |some (.slice e)=>match B6 C.P e with
   |some (n+1)=>SV (.jX (n+1)) o.dst (BC C U [x,lo,hi,mx])
   |_=>none
  |_=>none
 | .makeInterface t x=>match C.P.underlying t with
  |some (.interface _)=>none
  |some _=>SV (.aE9 t) o.dst (BC C U [x])
  |none=>none
 | .mapEntry t m k=>match C.P.underlying t with
  |some (.map kt e)=>match C.P.underlying kt,GZ C.P e with
   |some (.int .i64),some z=>SV (.NU z) o.dst (BC C U [m,k])
   |some .string,some z=>SV (.ZP z) o.dst (BC C U [m,k])
   |_,_=>none
  |_=>none
 | .entryStore _ m s v=>match o.dst with
  |none=>SV .Lp none (BC C U [m,s,v])
  |some _=>none
 | .slice t x lo hi none=>match C.P.underlying t with
  |some .string=>SU (.HO 0 true lo.isSome hi.isSome) o.dst (BC C U (x::(lo.toList++hi.toList)))
  |some (.slice e)=>match B6 C.P e with
   |some (n+1)=>if(o.dst.map (C.wT fid)).getD false then SV (.wR (n+1) lo.isSome hi.isSome) o.dst (BC C U (x::(lo.toList++hi.toList)))
    else SU (.HO (n+1) false lo.isSome hi.isSome) o.dst (BC C U (x::(lo.toList++hi.toList)))
   |_=>none
  |_=>none
 | .fieldAddr t x f=>match Iu C.P t f,o.dst with
  |some (off,_),some d=>match x,Ed C U x with
   | .tmp s,some (.box _ _ _)=>some (.pure [(d,.Fl s off)])
   |_,some (.Fl s k)=>some (.pure [(d,.Fl s (k+off))])
   |x,_=>SU (.EN off) (some d) (BC C U [x])
  |_,_=>none
 | .field t x f=>match Iu C.P t f with
  |some (off,sh)=>SU (.part off sh) o.dst (BC C U [x])
  |none=>none
 | .indexAddr t x i=>match C.P.underlying t with
  |some (.slice e)=>match B6 C.P e with
   |some (n+1)=>SU (.FC (n+1)) o.dst (BC C U [x,i])
   |_=>none
  |some (.array len e)=>match B6 C.P e with
   |some (n+1)=>if len<=1 then none else SU (.TG len (n+1)) o.dst (BC C U [x,i])
   |_=>none
  |_=>none
 | .index t x i=>match C.P.underlying t with
  |some .string=>SU .Qd o.dst (BC C U [x,i])
  |some (.array len e)=>match B6 C.P e,Fs C.P e with
   |some (n+1),some sh=>SU (.ū len (n+1) sh) o.dst (BC C U [x,i])
   |_,_=>none
  |_=>none
 | .extract x i=>SU (.ext i) o.dst (BC C U [x])
 | .call c=>QM C fid U c o.dst
 |_=>none
def BW.Ej(U:BW):List (Nat×Er)->BW
 |[]=>U
 |(s,x)::ws=>BW.Ej (U.set s x) ws
def BW.put(U:BW)(dst:Option Nat)(x:Er):BW:=
 match dst with
 |some d=>U.set d x
 |none=>U
def BW.DO(U:BW):Option (Nat×Aa)->BW
 |some (s,v)=>U.set s (.val v)
 |none=>U
def VR(n:Nat)(cs:List Aa):List Aa:=(List.range n).map λi=>cs.getD i .nilIface
def VS(cs:List Aa)(off n:Nat)(vs:List Aa):List Aa:=cs.take off++vs++cs.drop (off+n)
def Rt(owned:List Nat)(off n:Nat)(Bw:Bool):List Nat:=
 let rest:=owned.filter λo=> !(off<=o&&o<off+n)
 if Bw then off::rest else rest
def EO.L7(C:FZ)(U:BW)(K:BW->IT):EO->IT
 | .pure ws=>K (U.Ej ws)
 | .op p args dst Bw e=> .op p args λv=>K ((U.DO e).put dst (if Bw then .Bw v else .val v))
 | .box n v d=> .cells n v λcs=>K (U.set d (.box 0 (VR n cs) []))
 | .closure fn a b fz d=>K ((U.Ej (fz.map λ(s,cs)=>(s,.val (.Cq cs)))).set d (.val (.func fn a b)))
 | .MY s off n v Bw e ver cells owned=> .cells n v λvs=>K ((U.DO e).set s (.box (ver+1) (VS cells off n (VR n vs)) (Rt owned off n Bw)))
 | .load n p dst=> .load n p λv=>K (U.put dst (.val v))
 | .store n p v=> .store n p v (K U)
 | .alloc n v dst=> .alloc n v λp=>K (U.put dst (.val p))
 | .call f args dst=> .call f args λr=>K (U.put dst (if C.Jb f then .Bw r else .val r))
 | .Es g args dst=> .Es g args λr=>K (U.put dst (.val r))
 | .Bk f args dst=> .Bk f args λr=>K (U.put dst (.val r))
 | .Nf dst=> .Nf λm=>K (U.put dst (.val m))
 | .HQ m k v=> .HQ m k v (K U)
 | .L4 z ok m k dst=> .L4 z ok m k λv=>K (U.put dst (.val v))
 | .make z b zero l c dst=> .make z b zero l c λv=>K (U.put dst (.val v))
 | .HR z b s x dst e=> .HR z b s x λv=>K ((U.DO e).put dst (.val v))
 | .FN z b s x dst=> .FN z b s x λv=>K (U.put dst (.val v))
 | .GA z b s x dst e=> .GA z b s x λv=>K ((U.DO e).put dst (.Bw v))
 | .Fe s dst=> .Fe s λv=>K (U.put dst (.val v))
 | .Ux v dst=> .LK v λv=> .op .Ux [v] λu=>K (U.put dst (.val u))
 | .mem o args dst=> .mem o args λv=>K (U.put dst (if o.aFa then .undef else .val v))
def EO.news:EO->List Nat
 | .pure ws=>ws.filterMap λ(s,x)=>match x with| .box 0 _ _=>some s|_=>none
 | .box _ _ d=>[d]
 | .closure _ _ _ fz _=>fz.map (·.1)
 |_=>[]
inductive aFc where
 |Ng (run:Bool)
 |ask (jZ:Nat) (v:Aa) (want:Bool)
 |Ű
def IP(ops:List Oper)(U:BW)(o:Oper):aFc:=
 match o.guard with
 |none=> .Ng true
 |some (j,want)=>match(ops[j]?).bind (·.dst) with
  |some s=>match U.at s with
   | .OM b=> .Ng (b==want)
   | .val v=> .ask s v want
   | .skip=> .Ng false
   |_=> .Ű
  |none=> .Ű
def cm(C:FZ)(fid:FuncId)(ops:List Oper)(U:BW)(o:Oper)(K:BW->IT):IT:=
 match Gl C fid ops U o with
 |some r=>r.L7 C (U.drop r.news) K
 |none=> .fail
def SW(C:FZ)(fid:FuncId)(ops:List Oper)(U:BW)(o:Oper)(K:BW->IT):IT:=
 match IP ops U o with
 | .Ng true=>cm C fid ops U o K
 | .Ng false=>K (U.put o.dst .skip)
 | .ask s v want=>
  let t:=if want then cm C fid ops (U.set s (.OM true)) o K else K (BW.put (U.set s (.OM true)) o.dst .skip)
  let e:=if want then K (BW.put (U.set s (.OM false)) o.dst .skip) else cm C fid ops (U.set s (.OM false)) o K
  .AE v t e
 | .Ű=> .fail
def SX:FuncId->Bool
 |_=>false
def Ru(C:FZ)(U:BW)(o:Oper):List (Nat×List Aa):=
 match o.op with
 | .call c=>(match c.callee with
  | .value (.func f)=>if SX f then(match Gk C U c.args.toList with|some (_,fz)=>fz|none=>[]) else[]
  |_=>[])
 |_=>[]
def ű(C:FZ)(U:BW)(o:Oper):BW:=(U.drop ((Ru C U o).map (·.1))).Ej ((Ru C U o).map λ(s,cs)=>(s,.val (.Cq cs)))
def pC(C:FZ)(fid:FuncId)(ops:List Oper):List Oper->BW->(BW->IT)->IT
 |[],U,K=>K U
 |o::rest,U,K=>SW C fid ops (ű C U o) o λU=>pC C fid ops rest U K
end Go.Am
end
section
namespace Go.Am
def Oper.Uy(o:Oper):List Nat:=o.after.toList.filterMap λe=>if Region.binds .any e then some e.on else none
def bit(i:Nat):Nat:=2^i
def K4(DX:List Nat):List Oper->List Nat
 |[]=>DX
 |o::rest=>K4 (DX++[(Oper.Uy o).foldl (λm e=>m|||bit e|||DX.getD e 0) 0]) rest
def VT(ops:List Oper):List Nat:=K4 [] ops
def Et(an:List Nat)(i j:Nat):Bool:=(an.getD j 0).testBit i
def Ĝ(o:Oper):Bool:=
 match o.op with
 | .call c=>(match c.callee with| .builtin .copy| .builtin .clear=>true| .builtin _=>false|_=>true)
 | .store _ _ _| .insert _ _ _ _| .mapUpdate _ _ _ _| .makeMap _ _| .makeSlice _ _ _| .mapEntry _ _ _| .entryStore _ _ _ _=>true
 |_=>false
def VU(all:List Oper)(DX:List Nat):List Oper->List Nat
 |[]=>DX
 |o::rest=>VU all (DX++[(Oper.Uy o).foldl (λm e=>Nat.max m (DX.getD e 0+(match all[e]? with|some x=>if Ĝ x then 1 else 0|none=>0))) 0]) rest
def qw(ops:List Oper):List Nat:=
 let st:=VU ops [] ops
 let idx:=List.range ops.length
 let Rl:=λi=>match ops[i]? with|some o=>Ĝ o|none=>false
 (List.range (ops.length+1)).flatMap λs=>(idx.filter λi=>st.getD i 0==s&& !Rl i)++(idx.filter λi=>st.getD i 0==s&&Rl i)
structure FP where
 rs:List Nat
 wf:List Nat
 hl:Bool
 Rl:Bool
 news:List Nat
 lr:List Nat
 SY:Bool
 deriving Inhabited
def J7(xs:List Operand):List Nat:=xs.filterMap λ| .tmp t=>some t|_=>none
def NV(C:FZ)(U:BW)(x:Operand):Option Nat:=
 match Gj C U x with
 |some (.OY s _ _ _ _)=>some s
 |_=>none
def H6(C:FZ)(U:BW)(o:Oper):List Nat:=
 match o.op with
 | .load _ x=>(NV C U x).toList
 | .store _ x _=>(NV C U x).toList
 | .makeFunc _ _ captured=>J7 captured.toList
 |_=>[]
def EO.wf:EO->List Nat
 | .pure ws=>ws.map (·.1)
 | .op _ _ dst _ a=>dst.toList++(a.map (·.1)).toList
 | .box _ _ d=>[d]
 | .closure _ _ _ fz d=>d::fz.map (·.1)
 | .MY s _ _ _ _ a _ _ _=>s::(a.map (·.1)).toList
 | .load _ _ dst| .alloc _ _ dst| .call _ _ dst| .Es _ _ dst| .Bk _ _ dst| .Nf dst| .L4 _ _ _ _ dst| .make _ _ _ _ _ dst| .Fe _ dst| .Ux _ dst| .FN _ _ _ _ dst| .mem _ _ dst=>dst.toList
 | .HR _ _ _ _ dst a| .GA _ _ _ _ dst a=>dst.toList++(a.map (·.1)).toList
 | .store _ _ _| .HQ _ _ _=>[]
def EO.hl:EO->Bool
 | .load _ _ _| .L4 _ _ _ _ _=>true
 |_=>false
def EO.Rl:EO->Bool
 | .store _ _ _| .alloc _ _ _| .call _ _ _| .Es _ _ _| .Nf _| .HQ _ _ _| .make _ _ _ _ _ _| .HR _ _ _ _ _ _| .Fe _ _| .Ux _ _| .FN _ _ _ _ _| .GA _ _ _ _ _ _| .mem _ _ _=>true
 |_=>false
def FD(ops:List Oper)(o:Oper):List Nat:=
 match o.guard with
 |none=>[]
 |some (j,_)=>((ops[j]?).bind (·.dst)).toList
def Vg(xs:List Er):List Nat:=xs.filterMap λ| .Fl t _=>some t|_=>none
def EO.pD:EO->List Nat
 | .pure ws=>Vg (ws.map (·.2))
 |_=>[]
def EO.SY(U:BW)(r:EO):Bool:=
 MZ U r.news&&match r with
  | .load _ _ (some d)=>decide (d<U.length)
  | .load _ _ none| .L4 _ _ _ _ _| .closure _ _ _ (_::_) _=>false
  |_=>true
def Uz(C:FZ)(ops:List Oper)(U:BW)(o:Oper)(r:Option EO):FP:=
 match r with
 |none=>{rs:=FD ops o,wf:=o.dst.toList,hl:=false,Rl:=false,news:=[],lr:=Vg (o.dst.toList.map U.at),SY:=true}
 |some r=>{rs:=FD ops o++J7 o.op.operands.toList++H6 C U o,wf:=r.wf++o.dst.toList,hl:=r.hl,Rl:=r.Rl,news:=r.news,lr:=Vg ((r.wf++o.dst.toList).map U.at)++r.pD,SY:=r.SY U}
def TK(a b:List Nat):Bool:=a.any λx=>b.contains x
def FP.apart(x y:FP):Bool:= !TK x.wf (y.rs++y.wf)&& !TK y.wf x.rs&& !TK x.lr y.news&& !TK y.lr x.news
def QN(x y:FP):Bool:=x.SY&&y.SY&&x.apart y&& !(x.Rl&&y.Rl)&& !(x.Rl&&y.hl)
def VV(n:Nat)(an:List Nat)(a:List (Nat×FP)):Bool:=
 go a&&(List.range n).all (λi=>(a.map (·.1)).contains i)
where
 go:List (Nat×FP)->Bool
  |[]=>true
  |(i,f)::rest=>rest.all (λ(j,g)=>i != j&& !Et an j i&&(Et an i j||QN f g))&&go rest
structure Kw where
 idx:Nat
 n:Option Nat
 p:Aa
 v:Aa
def Rv(an:List Nat)(i:Nat):List Kw->IT->IT
 |[],t=>t
 |f::fs,t=>if Et an f.idx i then Rv an i fs t else .load f.n f.p λv=> .same f.v v (Rv an i fs t)
def MI(i:Nat)(r:EO)(U:BW)(fl:List Kw):List Kw:=
 match r with
 | .load n p (some d)=>match U.at d with
  | .val v=>{idx:=i,n,p,v}::fl
  |_=>fl
 |_=>fl
def Rw(ops:List Oper)(i:Nat):Bool:=ops.any λo=>match o.guard with|some (j,_)=>j==i|none=>false
def pE(d:Option Nat)(U:BW)(K:BW->IT):IT:=
 match d with
 |none=>K U
 |some d=>match U.at d with
  | .val v=> .AE v (K (U.set d (.OM true))) (K (U.set d (.OM false)))
  |_=>K U
def QP(C:FZ)(fid:FuncId)(ops:List Oper)(an:List Nat):List Nat->List (Nat×FP)->List Kw->BW->(BW->IT)->IT
 |[],a,_,U,K=>if VV ops.length an a.reverse then K U else .fail
 |i::rest,a,fl,U,K=>
  match ops[i]? with
  |none=> .fail
  |some o=>match IP ops U o with
   | .Ng true=>match Gl C fid ops U o with
    |none=> .fail
    |some r=>r.L7 C (U.drop r.news) λc=>
     let next:=pE (if Rw ops i then o.dst else none) c λb=>QP C fid ops an rest ((i,Uz C ops U o (some r))::a) (MI i r c fl) b K
     if r.Rl then Rv an i fl next else next
   | .Ng false=>QP C fid ops an rest ((i,Uz C ops U o none)::a) fl (U.put o.dst .skip) K
   |_=> .fail
def Eu(ops:List Oper)(o:Oper):List Nat:=
 o.dst.toList++match o.op with
  | .move (.tmp s)=>(match o.dst with|some d=>if cj ops d then[s] else[]|none=>[])
  | .assign (.tmp s)=>[s]
  | .store _ _ (.tmp s)=>[s]
  | .call c=>(match c.callee with| .builtin .append=>J7 c.args.toList| .value (.func f)=>if SX f then J7 c.args.toList else[]|_=>[])
  | .makeFunc _ _ captured=>J7 captured.toList
  |_=>[]
def Dd:Code->List Nat
 | .region _ ops _=>ops.toList.flatMap (Eu ops.toList)
 | .seq a b=>Dd a++Dd b
 | .cond _ a b=>Dd a++Dd b
 | .block _ b=>Dd b
 | .loop b=>Dd b
 | .scope b=>Dd b
 |_=>[]
def Ch:Code->List Nat
 | .region _ ops _=>ops.toList.flatMap (FD ops.toList)
 | .seq a b=>Ch a++Ch b
 | .cond (.tmp s) a b=>s::(Ch a++Ch b)
 | .cond _ a b=>Ch a++Ch b
 | .block _ b=>Ch b
 | .loop b=>Ch b
 | .scope b=>Ch b
 |_=>[]
def BW.clear(U:BW):List Nat->BW
 |[]=>U
 |s::ss=>BW.clear (U.set s .undef) ss
def GL:Code->Option Nat
 | .region id _ _=>some id
 | .seq a b=>(GL a).orElse λ_=>GL b
 | .cond _ a b=>(GL a).orElse λ_=>GL b
 | .block _ b| .loop b| .scope b=>GL b
 |_=>none
def VW(U:BW):List (Nat×Sh)->Option (List Aa)
 |[]=>some []
 |(s,sh)::l=>
  let v:=match sh,U.at s with
   | .val,x=>x.Ho
   | .Bw,.Bw v=>some v
   | .box n ow,.box _ cs NR=>if cs.length=n/\ow.all (NR.contains ·) then some (.agg cs) else none
   |_,_=>none
  match v,VW U l with
  |some v,some vs=>some (v::vs)
  |_,_=>none
def YK:Er->Nat
 | .box ver _ _=>ver
 |_=>0
def JB(vs:List Aa):List (Nat×Sh)->Nat->BW->(BW->IT)->IT
 |[],_,U,K=>K U
 |(s,.val)::l,i,U,K=>JB vs l (i+1) (U.set s (.val (vs.getD i .nilIface))) K
 |(s,.Bw)::l,i,U,K=>JB vs l (i+1) (U.set s (.Bw (vs.getD i .nilIface))) K
 |(s,.box n ow)::l,i,U,K=> .cells n (vs.getD i .nilIface) λcs=>JB vs l (i+1) (U.set s (.box (YK (U.at s)+1) (VR n cs) ow)) K
def kC(U:BW)(a:BW)(l:List (Nat×Sh)):Bool:=
 (List.range U.length).all λs=>match U.at s with
  | .box ver _ _=>(l.map (·.1)).contains s||(match a.at s with| .box Gm _ _=>Gm==ver|_=>false)
  | .Fl _ _=>(l.map (·.1)).contains s||(match a.at s with| .Fl _ _=>true|_=>false)
  |_=>true
def SZ(b:BW)(l:List (Nat×Sh))(x:Fp)(a:BW):IT:=
 if kC b a l then match VW a l with
  |some vs=> .ret x vs
  |none=> .fail
 else .fail
def cq(l:List (Nat×Sh))(ws:List Nat)(U:BW):Bool:=l.all λ(s,_)=>ws.contains s||(match U.at s with| .box _ _ _=>true|_=>false)
def ZR(ops:List Oper):Bool:=ops.zipIdx.all λ(o,i)=>(Oper.Uy o).all λe=>decide (e<i)
def Rx(C:FZ)(fid:FuncId)(ops:List Oper)(draw:Bool)(U:BW)(K:BW->IT):IT:=
 if draw then(if ZR ops then QP C fid ops (VT ops) (qw ops) [] [] U K else .fail) else pC C fid ops ops U K
def ZS(key:Nat)(U:BW)(ws:List Nat)(l:List (Nat×Sh))(t:(Fp->BW->IT)->IT)(K:Fp->BW->IT):IT:=
 let b:=U.clear ws
 if cq l ws U then .Dz key (t λx a=>SZ b l x a) λx vs=>JB vs l 0 b λa=>K x a else .fail
def ĝ(K:Fp->BW->IT):Fp->BW->IT
 | .normal,_=> .fail
 | .exit i,U=>K (.exit i) U
 | .ret,U=>K .ret U
def Gn(C:FZ)(fid:FuncId):Code->BW->(Fp->BW->IT)->IT
 | .skip,U,K=>K .normal U
 | .region id ops draw,U,K=>match C.Ě fid id with
  |none=>Rx C fid ops.toList draw U (K .normal)
  |some l=>ZS (200000+id) U (ops.toList.flatMap (Eu ops.toList)++ops.toList.flatMap (FD ops.toList)) l (λK=>Rx C fid ops.toList draw U (K .normal)) K
 | .seq a b,U,K=>Gn C fid a U λx d=>match x with
  | .normal=>Gn C fid b d K
  | .exit i=>K (.exit i) d
  | .ret=>K .ret d
 | .cond c a b,U,K=>match c,Ed C U c with
  |_,some (.OM true)=>Gn C fid a U K
  |_,some (.OM false)=>Gn C fid b U K
  | .tmp s,some (.val v)=>match C.ę fid s with
   |none=> .AE v (Gn C fid a (U.set s (.OM true)) K) (Gn C fid b (U.set s (.OM false)) K)
   |some l=>ZS (100000+s) U (s::(Dd a++Dd b++Ch a++Ch b)) l (λK=> .AE v (Gn C fid a (U.set s (.OM true)) K) (Gn C fid b (U.set s (.OM false)) K)) K
  |_,_=> .fail
 | .block id b,U,K=>Gn C fid b U λx d=>match x with
  | .normal=>K .normal d
  | .exit i=>if i=id then K .normal d else K (.exit i) d
  | .ret=>K .ret d
 | .loop b,U,K=>
  let l:=C.ŭ fid ((GL b).getD 0)
  let ws:=Dd b++Ch b
  let f:=U.clear ws
  if cq l ws U then match VW U l with
   |none=> .fail
   |some init=> .loop ((GL b).getD 0) init (λvs=>JB vs l 0 f λe=>Gn C fid b e λx d=>SZ f l x d) λx vs=>JB vs l 0 f λd=>ĝ K x d
  else .fail
 | .exit id,U,K=>K (.exit id) U
 | .ret,U,K=>K .ret U
 | .scope b,U,K=>Gn C fid b U K
 | .label _,U,K=>K .normal U
 |_,_,_=> .fail
def GI(C:FZ)(U:BW):List ResultVar->List Aa->(List Aa->IT)->IT
 |[],DX,K=>K DX.reverse
 | .tmp t::rs,DX,K=>match(U.at t).Ho with
  |some v=>GI C U rs (v::DX) K
  |none=> .fail
 | .cell a t::rs,DX,K=>match Fs C.P t,Gj C U (.tmp a) with
  |some none,some (.OY _ o _ cs _)=>if o<cs.length then GI C U rs (cs.getD o .nilIface::DX) K else .fail
  |some (some n),some (.OY _ o _ cs _)=>if o+n<=cs.length then GI C U rs (.agg ((cs.drop o).take n)::DX) K else .fail
  |some n,some (.ptr p)=> .load n p λv=>GI C U rs (v::DX) K
  |_,_=> .fail
def PO(U:BW):List ResultVar->Bool
 |[.tmp t]=>match U.at t with| .Bw _=>true|_=>false
 |_=>false
def pF(C:FZ)(U:BW):List (Nat×Nat)->IT->IT
 |[],t=>t
 |(s,off)::l,t=>match(U.at s).Ho with
  |some p=> .HE off p (pF C U l t)
  |none=> .fail
def O0:List Aa->List Aa->(List Aa->IT)->IT
 |[],DX,K=>K DX.reverse
 |v::vs,DX,K=> .LK v λv=>O0 vs (v::DX) K
def TL:List Aa->IT
 |[v]=> .ret .ret [v]
 |vs=> .ret .ret [.tuple vs]
def dZ(C:FZ)(fid:FuncId)(fn:Func)(U:BW):IT:=
 if C.Jb fid&& !PO U fn.results.toList then .fail
 else pF C U (C.cg fid) (GI C U fn.results.toList [] λvs=>if C.cf fid then O0 vs [] TL else TL vs)
def cr(C:FZ)(fid:FuncId)(fn:Func)(args:List Aa):IT:=
 match fn.body with
 |none=> .fail
 |some c=>Gn C fid c (args.map .val++List.replicate (fn.ntmps-args.length) .undef) λx U=>match x with
  | .normal=>dZ C fid fn U
  | .exit _=> .fail
  | .ret=>dZ C fid fn U
def aFd(C:FZ)(fid:FuncId)(args:List Aa):IT:=
 match C.P.funcs[EE fid]? with
 |some fn=>if fn.name== "runtime.NumGoroutine" then .fail else cr C fid fn args
 |none=> .fail
def Cd(C:FZ)(fid:FuncId)(args:List Aa):IT:=
 match C.Ů fid with
 |some p=>p args
 |none=>aFd C fid args
abbrev g(l:List Aa)(i:Nat):Aa:=l.getD i .nilIface
abbrev I(n:Int):Aa:= .int .i64 n
abbrev S(s:Aq):Aa:= .str s
abbrev tt:Aa:= .bool true
abbrev ff:Aa:= .bool false
abbrev FZ.run(C:FZ):Nat->IT->Ah->Option J1:=IT.run (Cd C)
end Go.Am
end
end
section
namespace Go.Am
def IT.JN{fn:FuncId->List Aa->IT}{rec aFe:IT->Ah->Option J1}(hr:∀t h r,rec t h=some r->aFe t h=some r):
  ∀(t:IT) (h:Ah) (r:J1),IT.step fn rec t h=some r->IT.step fn aFe t h=some r:=by
 intro t;induction t with
 |ret x vs=>intro h r d;simpa[IT.step] using d
 |fail=>intro h r d;simp[IT.step] at d
 |op o args k ih=>
  intro h r d;simp only[IT.step] at d⊢;split at d;.exact ih _ _ _ d
  .cases d
 |cells n v k ih=>
  intro h r d;simp only[IT.step] at d⊢;split at d;.rename_i hc;rw[Ae hc];exact ih _ _ _ d
  .cases d
 |AE c t e i q=>
  intro h r d;simp only[IT.step] at d⊢;split at d;.exact i _ _ d
  .exact q _ _ d
  .cases d
 |load n p k ih=>
  intro h r d;simp only[IT.step] at d⊢;split at d;.exact ih _ _ _ d
  .cases d
 |store n p v k ih=>
  intro h r d;simp only[IT.step] at d⊢;split at d;.exact ih _ _ d
  .cases d
 |alloc n v k ih=>
  intro h r d;simp only[IT.step] at d⊢;split at d;.exact ih _ _ _ d
  .cases d
 |call f args k ih=>
  intro h r d;simp only[IT.step] at d⊢;split at d;.rename_i h1;rw[hr _ _ _ h1];exact ih _ _ _ d
  .cases d
 |Es g args k ih=>
  intro h r d;simp only[IT.step] at d⊢;split at d
  .rename_i f a ht;split at d;.rename_i h1;simp only[hr _ _ _ h1];exact ih _ _ _ d
   .cases d
  .cases d
 |Bk f args k ih=>
  intro h r d;simp only[IT.step] at d⊢;split at d
  .rename_i Hn;rw[Ae Hn];split at d
   .rename_i h1;rw[hr _ _ _ h1];split at d;.rename_i az;simp only[az,BT];exact ih _ _ _ d
    .cases d
   .cases d
  .cases d
 |loop key init body k l j=>
  intro h r d;simp only[IT.step] at d⊢;split at d;.rename_i h1;rw[l _ _ _ h1];exact hr _ _ _ d
  .rename_i x vs h1 hne hx;rw[l _ _ _ hx];cases x<;>first|exact j _ _ _ _ d|exact absurd rfl hne
  .cases d
 |Dz key t k i j=>
  intro h r d;simp only[IT.step] at d⊢;split at d;.rename_i h1;rw[i _ _ h1];exact j _ _ _ _ d
  .cases d
 |same a b k ih=>
  intro h r d;simp only[IT.step] at d⊢;split at d;.rename_i hc;rw[Ae hc];exact ih _ _ d
  .cases d
 |Nf k ih=>intro h r d;simp only[IT.step] at d⊢;exact ih _ _ _ d
 |HQ m key v k ih=>
  intro h r d;simp only[IT.step] at d⊢;split at d;.exact ih _ _ d
  .cases d
 |L4 z ok m key k ih=>
  intro h r d;simp only[IT.step] at d⊢;split at d;.exact ih _ _ _ d
  .cases d
 |make size bytes zero len cap k ih=>
  intro h r d;simp only[IT.step] at d⊢;split at d;.exact ih _ _ _ d
  .cases d
 |HR size bytes s x k ih=>
  intro h r d;simp only[IT.step] at d⊢;split at d;.exact ih _ _ _ d
  .cases d
 |Fe s k ih=>
  intro h r d;simp only[IT.step] at d⊢;split at d;.exact ih _ _ _ d
  .cases d
 |LK v k ih=>
  intro h r d;simp only[IT.step] at d⊢;split at d;.exact ih _ _ _ d
  .cases d
 |HE off p k ih=>
  intro h r d;simp only[IT.step] at d⊢;split at d;.exact ih _ _ d
  .cases d
 |FN size bytes s x k ih=>
  intro h r d;simp only[IT.step] at d⊢;split at d;.exact ih _ _ _ d
  .cases d
 |GA size bytes s x k ih=>
  intro h r d;simp only[IT.step] at d⊢;split at d;.exact ih _ _ _ d
  .cases d
 |mem o args k ih=>
  intro h r d;simp only[IT.step] at d⊢;split at d;.exact ih _ _ _ d
  .cases d
 |o8 f args k ih=>
  intro h r d;simp only[IT.step] at d⊢;split at d
  .rename_i h1;rw[hr _ _ _ h1];split at d;.rename_i az;simp only[az,BT];exact ih _ _ _ d
   .cases d
  .cases d
def IT.ct{fn:FuncId->List Aa->IT}:∀(n:Nat) (t:IT) (h:Ah) (r:J1),IT.run fn n t h=some r->IT.run fn (n+1) t h=some r:=by
 intro n;induction n with
 |zero=>intro t h r a;simp[IT.run] at a
 |succ n ih=>intro t h r a;exact IT.JN (λt h r=>ih t h r) t h r a
def IT.Ib{fn:FuncId->List Aa->IT}{n m:Nat}(hnm:n<=m){t:IT}{h:Ah}{r:J1}(a:IT.run fn n t h=some r):IT.run fn m t h=some r:=by
 induction hnm with
 |refl=>exact a
 |step _ ih=>exact IT.ct _ _ _ _ ih
abbrev HB:=Fp->List Aa->Ah->Prop
def W(C:FZ)(t:IT)(Q:HB)(h:Ah):Prop:=∃n x vs h',C.run n t h=some (x,vs,h')/\Q x vs h'
section
variable{C:FZ}{Q:HB}{h:Ah}
def W.mono{t:IT}{Q':HB}(hw:W C t Q h)(hq:∀x vs h',Q x vs h'->Q' x vs h'):W C t Q' h:=
 let⟨n,x,vs,h',hr,q⟩:=hw;⟨n,x,vs,h',hr,hq _ _ _ q⟩
def Ğ{x:Fp}{vs:List Aa}(hq:Q x vs h):W C (.ret x vs) Q h:=⟨1,x,vs,h,rfl,hq⟩
def C5{t:IT}(a:∃n x vs h',IT.step (Cd C) (C.run n) t h=some (x,vs,h')/\Q x vs h'):W C t Q h:=
 let⟨n,x,vs,h',hr,q⟩:=a;⟨n+1,x,vs,h',hr,q⟩
def W.succ{t:IT}(a:W C t Q h):∃n x vs h',IT.step (Cd C) (C.run n) t h=some (x,vs,h')/\Q x vs h':=by
 obtain⟨n,x,vs,h',hr,q⟩:=a;cases n with
 |zero=>simp[FZ.run,IT.run] at hr
 |succ n=>exact⟨n,x,vs,h',hr,q⟩
def aFf{o:X1}{args:List Aa}{k:Aa->IT}{v:Aa}(hv:AB o args=some v)(hw:W C (k v) Q h):W C (.op o args k) Q h:=by obtain⟨n,x,vs,h',hr,q⟩:=hw.succ;exact C5 ⟨n,x,vs,h',by simp only[IT.step,hv];exact hr,q⟩
def pG{n:Nat}{v:Aa}{k:List Aa->IT}(hv:v.cells.length=n)(hw:W C (k v.cells) Q h):W C (.cells n v k) Q h:=by obtain⟨m,x,vs,h',hr,q⟩:=hw.succ;exact C5 ⟨m,x,vs,h',by simp only[IT.step,hv,BT];exact hr,q⟩
def pH{b:Bool}{t e:IT}(ht:b=true->W C t Q h)(he:b=false->W C e Q h):W C (.AE (.bool b) t e) Q h:=by
 cases b with
 |true=>obtain⟨m,x,vs,h',hr,q⟩:=(ht rfl).succ;exact C5 ⟨m,x,vs,h',by simp only[IT.step];exact hr,q⟩
 |false=>obtain⟨m,x,vs,h',hr,q⟩:=(he rfl).succ;exact C5 ⟨m,x,vs,h',by simp only[IT.step];exact hr,q⟩
def cu{n:Option Nat}{p v:Aa}{k:Aa->IT}(hv:Bg h n p=some v)(hw:W C (k v) Q h):W C (.load n p k) Q h:=by obtain⟨m,x,vs,h',hr,q⟩:=hw.succ;exact C5 ⟨m,x,vs,h',by simp only[IT.step,hv];exact hr,q⟩
def pI{n:Nat}{p v:Aa}{k:IT}{h1:Ah}(hv:Cw h n p v=some h1)(hw:W C k Q h1):W C (.store n p v k) Q h:=by obtain⟨m,x,vs,h',hr,q⟩:=hw.succ;exact C5 ⟨m,x,vs,h',by simp only[IT.step,hv];exact hr,q⟩
def pJ{n:Nat}{v:Aa}{k:Aa->IT}(hv:v.cells.length=n)(hw:W C (k (.ptr (some (h.length,0)))) Q (h++[.cells v.cells])):W C (.alloc n v k) Q h:=by obtain⟨m,x,vs,h',hr,q⟩:=hw.succ;exact C5 ⟨m,x,vs,h',by simp only[IT.step,VH,hv,BT];exact hr,q⟩
def cw{a b:Aa}{k:IT}(hv:Aa.beq a b=true)(hw:W C k Q h):W C (.same a b k) Q h:=by obtain⟨m,x,vs,h',hr,q⟩:=hw.succ;exact C5 ⟨m,x,vs,h',by simp only[IT.step,hv,BT];exact hr,q⟩
def cy{k:Aa->IT}(hw:W C (k (.map (some h.length))) Q (h++[.map []])):W C (.Nf k) Q h:=by obtain⟨m,x,vs,h',hr,q⟩:=hw.succ;exact C5 ⟨m,x,vs,h',by simp only[IT.step];exact hr,q⟩
def cz{m key v:Aa}{k:IT}{h1:Ah}(hv:TH h m key v=some h1)(hw:W C k Q h1):W C (.HQ m key v k) Q h:=by obtain⟨n,x,vs,h',hr,q⟩:=hw.succ;exact C5 ⟨n,x,vs,h',by simp only[IT.step,hv];exact hr,q⟩
def c_{z:Aa}{ok:Bool}{m key v:Aa}{k:Aa->IT}(hv:TI h z ok m key=some v)(hw:W C (k v) Q h):W C (.L4 z ok m key k) Q h:=by obtain⟨n,x,vs,h',hr,q⟩:=hw.succ;exact C5 ⟨n,x,vs,h',by simp only[IT.step,hv];exact hr,q⟩
def kD{size bytes:Nat}{zero:List Aa}{len cap v:Aa}{k:Aa->IT}{h1:Ah}(hv:Rr h size bytes zero len cap=some (h1,v))(hw:W C (k v) Q h1):W C (.make size bytes zero len cap k) Q h:=by obtain⟨n,x,vs,h',hr,q⟩:=hw.succ;exact C5 ⟨n,x,vs,h',by simp only[IT.step,hv];exact hr,q⟩
def pK{size bytes:Nat}{s x v:Aa}{k:Aa->IT}{h1:Ah}(hv:KB h size bytes s x=some (h1,v))(hw:W C (k v) Q h1):W C (.HR size bytes s x k) Q h:=by obtain⟨n,x,vs,h',hr,q⟩:=hw.succ;exact C5 ⟨n,x,vs,h',by simp only[IT.step,hv];exact hr,q⟩
def VX{s v:Aa}{k:Aa->IT}{h1:Ah}(hv:IN h s=some (h1,v))(hw:W C (k v) Q h1):W C (.Fe s k) Q h:=by obtain⟨n,x,vs,h',hr,q⟩:=hw.succ;exact C5 ⟨n,x,vs,h',by simp only[IT.step,hv];exact hr,q⟩
def ğ{u v:Aa}{k:Aa->IT}{h1:Ah}(hv:Kq h u=some (h1,v))(hw:W C (k v) Q h1):W C (.LK u k) Q h:=by obtain⟨n,x,vs,h',hr,q⟩:=hw.succ;exact C5 ⟨n,x,vs,h',by simp only[IT.step,hv];exact hr,q⟩
def pL{off:Nat}{p:Aa}{k:IT}{h1:Ah}(hv:L5 h off p=some h1)(hw:W C k Q h1):W C (.HE off p k) Q h:=by obtain⟨n,x,vs,h',hr,q⟩:=hw.succ;exact C5 ⟨n,x,vs,h',by simp only[IT.step,hv];exact hr,q⟩
def da{size bytes:Nat}{s x v:Aa}{k:Aa->IT}{h1:Ah}(hv:F9 h size bytes s x=some (h1,v))(hw:W C (k v) Q h1):W C (.FN size bytes s x k) Q h:=by obtain⟨n,x,vs,h',hr,q⟩:=hw.succ;exact C5 ⟨n,x,vs,h',by simp only[IT.step,hv];exact hr,q⟩
def YL{size bytes:Nat}{s x v:Aa}{k:Aa->IT}(hv:Qn h size bytes s x=some v)(hw:W C (k v) Q h):W C (.GA size bytes s x k) Q h:=by obtain⟨n,x,vs,h',hr,q⟩:=hw.succ;exact C5 ⟨n,x,vs,h',by simp only[IT.step,hv];exact hr,q⟩
def Ġ{o:bw}{args:List Aa}{v:Aa}{k:Aa->IT}{h1:Ah}(hv:E5 o h args=some (h1,v))(hw:W C (k v) Q h1):W C (.mem o args k) Q h:=by obtain⟨n,x,vs,h',hr,q⟩:=hw.succ;exact C5 ⟨n,x,vs,h',by simp only[IT.step,hv];exact hr,q⟩
def Ev(C:FZ)(f:FuncId)(args:List Aa)(h:Ah)(R:Aa->Ah->Prop):Prop:=
 W C (Cd C f args) (λx vs h'=>x= .ret/\∃r,vs=[r]/\R r h') h
def Ev.mono{f:FuncId}{args:List Aa}{R R':Aa->Ah->Prop}(hw:Ev C f args h R)(hr:∀r h',R r h'->R' r h'):Ev C f args h R':=
 W.mono hw λ_ _ _ ⟨hx,r,hv,hR⟩=>⟨hx,r,hv,hr _ _ hR⟩
def db{f:FuncId}{args:List Aa}{k:Aa->IT}(hc:Ev C f args h λr h1=>W C (k r) Q h1):W C (.call f args k) Q h:=by obtain⟨n,x,vs,h1,hr,hx,r,hv,m,x',HS,h',F0,q⟩:=hc;subst hx;subst hv;refine C5 ⟨max n m,x',HS,h',?_,q⟩;have ġ:=IT.Ib (HM n m) hr;have h2:=IT.Ib (Bu (Hk n m) (Fj _)) F0;simp only[IT.step];simp only[FZ.run] at*;rw[ġ];exact h2
def qx{f:FuncId}{args:List Aa}{k:Aa->IT}(ha:args.all Aa.ME=true)(hc:Ev C f args [] λr _=>r.ME=true/\W C (k r) Q h):W C (.Bk f args k) Q h:=by obtain⟨n,x,vs,h1,hr,hx,r,hv,Hn,m,x',HS,h',F0,q⟩:=hc;subst hx;subst hv;refine C5 ⟨max n m,x',HS,h',?_,q⟩;have ġ:=IT.Ib (HM n m) hr;have h2:=IT.Ib (Bu (Hk n m) (Fj _)) F0;simp only[IT.step,ha,BT];simp only[FZ.run] at*;rw[ġ];simp only[Hn,BT];exact h2
def dd{key:Nat}{t:IT}{k:Fp->List Aa->IT}(hw:W C t (λx vs h1=>W C (k x vs) Q h1) h):W C (.Dz key t k) Q h:=by obtain⟨n,x,vs,h1,hr,a⟩:=hw.succ;obtain⟨m,x',HS,h',F0,q⟩:=a.succ;refine C5 ⟨max n m,x',HS,h',?_,q⟩;have c:=IT.JN (λt h r=>IT.Ib (fn:=Cd C) (HM n m)) _ _ _ hr;have b:=IT.JN (λt h r=>IT.Ib (fn:=Cd C) (Hk n m)) _ _ _ F0;simp only[IT.step];simp only[FZ.run] at*;rw[c];exact b
end
end Go.Am
end
