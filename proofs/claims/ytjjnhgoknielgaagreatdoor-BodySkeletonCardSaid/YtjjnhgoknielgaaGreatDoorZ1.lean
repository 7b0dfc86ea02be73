/- Lemmas -/
import GoSem.Step
set_option linter.all false
def Ac:=@if_neg
def Ad:=@Nat.le_refl
def Af:=@if_pos
def Aj:=@List.getElem?_eq_some_iff
def Ak:=@decide_eq_true
def Al:=@List.getElem?_append_left
def An:=@List.mem_append
def Ao:=@List.length_append
def Ap:=@decide_eq_false
def Aq:=@List.getElem?_set_ne
def Av:=@List.getElem?_eq_getElem
def Aw:=@List.length_map
def Ay:=@List.length_take
def Az:=@List.drop_eq_getElem_cons
def AE:=@List.mem_cons
def AF:=@List.getElem_mem
def AI:=@List.getElem?_set_self
def AJ:=@List.getD_eq_getElem?_getD
def AK:=@List.length_cons
def AN:=@false_implies
def AQ:=@Array.getElem?_eq_some_iff
def AR:=@List.drop_of_length_le
def AS:=@List.length_singleton
def AU:=@true_implies
def AW:=@List.length_nil
def AX:=@List.length_drop
def AY:=@List.mem_of_mem_drop
def AZ:=@List.mem_of_mem_take
def A0:=@not_true_eq_false
def A5:=@not_false_eq_true
def A6:=@List.append_assoc
def A7:=@List.mem_map
def Bb:=@Bool.and_eq_true
def Bc:=@List.filter_append
def Bd:=@List.take_succ_eq_append_getElem
def Bf:=@List.take_of_length_le
def Bg:=@List.append_nil
def Bi:=@List.take_append_of_le_length
def Bj:=@List.map_cons
def Bk:=@List.take_length
def Bl:=@Nat.lt_or_ge
def Bp:=@Nat.zero_le
def Bq:=@List.mem_singleton
def Br:=@List.take_append_drop
def Bu:=@List.getElem?_append_right
def Bv:=@Nat.le_trans
def By:=@Nat.add_zero
def BA:=@List.nil_append
def BD:=@List.mem_filter
def BE:=@Nat.zero_add
def BF:=@Int.toNat_natCast
def BG:=@eq_true
def BI:=@List.mem_append_right
def BJ:=@Nat.add_mul
def BL:=@Option.some.injEq
def BN:=@if_true
def BO:=@Nat.min_eq_left
def BQ:=@List.Sublist.refl
def BV:=@Option.map_some
def BW:=@List.nodup_append
def B2:=@List.mem_append_left
def B3:=@congrArg
def B5:=@List.size_toArray
def B6:=@List.nodup_cons
def B7:=@List.set_eq_take_append_cons_drop
def B8:=@List.cons_append
def Cb:=@Bool.false_eq_true
def Cc:=@List.set_append_right
def Cf:=@List.take_sublist
def Cg:=@List.map_append
def Ch:=@List.length_set
def Cp:=@Array.length_toList
def Cq:=@List.mem_filterMap
def Cs:=@List.cons.injEq
def Ct:=@decide_eq_true_eq
def Cw:=@Option.bind_some
def CA:=@List.getElem?_take
def CB:=@List.length_pos_iff
def CD:=@of_decide_eq_true
def CF:=@List.getElem?_drop
def CH:=@List.mem_of_getElem?
def CI:=@List.take_take
def CM:=@List.getElem?_take_of_lt
def CO:=@List.flatten_cons
def CP:=@List.getElem?_of_mem
def CR:=@Array.getElem?_eq_getElem
def CS:=@List.mem_take_iff_getElem
def CX:=@List.eq_nil_of_length_eq_zero
def CY:=@ne_eq
def CZ:=@Ne.symm
def C3:=@Nat.succ_pos
def C4:=@eq_self
def Dm:=@List.getElem?_map
def Du:=@List.filter_cons_of_pos
def Dv:=@List.filter_cons_of_neg
def DA:=@List.mem_or_eq_of_mem_set
def DE:=@List.reverse_reverse
def DH:=@Nat.lt_irrefl
def DM:=@List.map_nil
def DP:=@if_false
def DQ:=@List.all_eq_true
def Ei:=@List.getElem_map
def Ej:=@List.not_mem_nil
def En:=@List.getElem?_eq_none
def Ew:=@List.drop_drop
def Ex:=@Nat.mul_le_mul_right
def EF:=@decide_eq_decide
def EO:=@List.reverse_append
def ER:=@Nat.one_mul
def ES:=@List.reverse_cons
def ET:=@Decidable.not_not
def EV:=@List.filterMap_append
def E5:=@List.take_left
def E8:=@Option.some.inj
def E9:=@Nat.sub_self
def Fq:=@Option.getD_some
def Fs:=@List.length_eq_zero_iff
def Ft:=@List.drop_length
def FO:=@List.drop_zero
def FV:=@Nat.le_succ
def FW:=@Nat.zero_lt_one
def Ge:=@Nat.eq_zero_or_pos
def GP:=@List.getElem_drop
def Hm:=@Array.toList_append
def Hn:=@List.filter_eq_self
def Ho:=@List.countP_eq_zero
def Hw:=@Array.getD_eq_getD_getElem?
def Hy:=@List.reverse_singleton
def Hz:=@Nat.mul_one
def HA:=@List.map_take
def HD:=@Nat.le_max_right
def HE:=@List.filter_cons
def HV:=@Array.ext'
def HW:=@List.length_replicate
def HX:=@List.singleton_append
def Ib:=@List.extract_eq_take_drop
def Ie:=@Nat.le_max_left
def If:=@List.find?_cons
def Iq:=@bne_self_eq_false
def Ir:=@decide_false
def It:=@List.getElem_take
def IU:=@Int.toNat_of_nonneg
def IV:=@List.filterMap_cons
def Je:=@Array.eq_empty_of_size_eq_zero
def Jf:=@List.drop_append
def Jg:=@Nat.le_mul_of_pos_right
def Jh:=@and_true
def Ji:=@List.getElem?_cons_zero
def JI:=@Nat.lt_of_lt_of_le
def JJ:=@List.map_set
def JK:=@List.getElem_cons_succ
def JL:=@List.countP_append
def JY:=@Bool.or_eq_true
def JZ:=@List.take_left'
def J4:=@Bool.false_or
def Kt:=@Array.size_append
def KX:=@Array.replicate_succ
def KY:=@Array.replicate_zero
def KZ:=@decide_true
def K0:=@Bool.or_eq_false_iff
def LD:=@List.take_succ_cons
def LF:=@List.toList_toArray
def LG:=@List.replicate_succ
def LH:=@List.append_toArray
def LI:=@List.drop_succ_cons
def LJ:=@List.length_reverse
def LK:=@List.findIdx?_eq_some_iff_findIdx_eq
def LL:=@List.getElem_of_mem
def Mj:=@Prod.mk.injEq
def Mk:=@List.map_drop
def Ml:=@or_false
def Mp:=@List.drop_left'
def Mq:=@Bool.eq_iff_iff
def MC:=@List.find?_eq_none
def MD:=@Nat.add_sub_cancel
def Nr:=@Nat.le_of_eq
def Ns:=@Nat.zero_mul
def Nt:=@List.push_toArray
def Nu:=@List.set_set
def Nv:=@List.filter_congr
def ND:=@List.takeWhile_append_dropWhile
def NZ:=@Array.getElem?_modify
def N0:=@List.set_getElem_self
def N1:=@Nat.eq_of_beq_eq_true
def Oc:=@Array.toList_map
def Od:=@List.any_eq_true
def Oe:=@List.getElem_inj
def OV:=@Array.toList_extract
def OW:=@List.mem_cons_of_mem
def OX:=@true_and
def OY:=@List.drop_append_of_le_length
def OZ:=@Int.le_refl
def PU:=@not_or
def P8:=@List.flatten_append
def Qd:=@Nat.add_comm
def Qe:=@Nat.ne_of_lt
def Qf:=@Bool.true_or
def Q6:=@List.take_zero
def Q7:=@Array.ext_getElem?
def Q8:=@Bool.not_false
def Q9:=@Int.fdiv_eq_ediv_of_nonneg
def Ra:=@List.drop_left
def RK:=@Option.filter_eq_some_iff
def RL:=@List.mem_of_find?_eq_some
def RM:=@List.getLast?_eq_getElem?
def R7:=@List.ext_getElem?
def SP:=@Nat.add_assoc
def SQ:=@List.all_cons
def SR:=@Bool.or_false
def SS:=@Bool.bne_true
def SU:=@List.getElem_append_left
def SV:=@List.any_cons
def Ud:=@List.getElem?_cons_succ
def Ue:=@List.reverse_nil
def Uf:=@Nat.lt_succ_self
def Ug:=@Option.bind_eq_some_iff
def Uh:=@Nat.add_sub_cancel_left
def Ui:=@Int.eq_ofNat_of_zero_le
def Uj:=@List.map_reverse
def Uk:=@List.mem_reverse
def Vd:=@List.sublist_cons_self
def Ve:=@Nat.le_of_lt
def Vf:=@Int.not_lt
def Vg:=@List.getElem_cons_zero
def VW:=@List.find?_some
def Wv:=@List.length_filter_le
def Ww:=@List.dropLast_eq_take
def ZF:=@Bool.false_and
def aW:=@List.take_set_of_le
def aX:=@Array.getElem?_push
def aY:=@List.map_congr_left
def aZ:=@List.getD_cons_zero
def bA:=@List.mem_map_of_mem
def eC:=@Bool.true_and
def lB:=@List.set_cons_zero
def p9:=@and_self
def qC:=@dif_pos
def qD:=@List.find?_append
def qE:=@List.any_nil
def qN:=@Array.getElem?_setIfInBounds_ne
def wB:=@List.zipIdx_cons
def wC:=@List.take_append
def wD:=@List.mem_flatMap
def wE:=@Option.getD_none
def wF:=@false_and
def ua:=@List.foldl_cons
def vf:=@eq_comm
def ı:=@beq_iff_eq
def Ĳ:=@Bool.and_false
def ĳ:=@List.nodup_nil
def ł:=@List.getElem_append_right
def Ń:=@List.append_eq_append_iff
def ń:=@Decidable.byContradiction
def aBu:=@List.take_add
def aBv:=@List.eq_of_mem_replicate
def aBw:=@Int.lt_irrefl
def aGX:=@List.length_eq_one_iff
def aGY:=@Iff.rfl
def aGZ:=@Option.map_eq_some_iff
def aHt:=@List.contains_iff_mem
def aHu:=@Array.getElem?_toList
def aHv:=@List.dropLast_sublist
def aKV:=@List.getElem?_append
def aKW:=@List.range_eq_range'
def aKX:=@List.pairwise_append
def aKY:=@List.set_append_left
def aKZ:=@List.mem_of_getLast?
def aLU:=@Nat.add_sub_cancel'
def aLV:=@List.drop_set_of_lt
def aLW:=@Array.toList_zipIdx
def aLX:=@List.getD_cons_succ
def aLY:=@List.drop_take_self
def aQh:=@List.zip_cons_cons
def aQi:=@Array.foldl_toList
def aQj:=@List.pairwise_cons
def aQk:=@Option.isSome_some
def aQl:=@List.findIdx?_cons
def aQm:=@Option.toList_some
def aQn:=@List.map_singleton
def aQo:=@decide_eq_true_iff
def aQp:=@List.filter_filter
def aRM:=@Bool.not_eq_true'
def aRN:=@List.getElem?_set
def aRO:=@List.pairwise_map
def aRQ:=@List.any_eq_false
def aRR:=@List.drop_sublist
def aRS:=@List.find?_isSome
def aRT:=@List.getLast?_nil
def aRU:=@Nat.lt_trichotomy
abbrev aWq:List UInt8:=[97,116,116,114,105,98,117,116,101,78,97,109,101,32,97,116,116,114,105,98,117,116,101,84,121,112,101,32,98,97,115,101,70,114,101,113,117,101,110,99,121,32,98,97,115,101,80,114,111,102,105,108,101,32,99,97,108,99,77,111,100,101,32,99,108,105,112,80,97,116,104,85,110,105,116,115,32,100,105,102,102,117,115,101,67,111,110,115,116,97,110,116,32,101,100,103,101,77,111,100,101,32,102,105,108,116,101,114,85,110,105,116,115,32,103,108,121,112,104,82,101,102,32,103,114,97,100,105,101,110,116,84,114,97,110,115,102,111,114,109,32,103,114,97,100,105,101,110,116,85,110,105,116,115,32,107,101,114,110,101,108,77,97,116,114,105,120,32,107,101,114,110,101,108,85,110,105,116,76,101,110,103,116,104,32,107,101,121,80,111,105,110,116,115,32,107,101,121,83,112,108,105,110,101,115,32,107,101,121,84,105,109,101,115,32,108,101,110,103,116,104,65,100,106,117,115,116,32,108,105,109,105,116,105,110,103,67,111,110,101,65,110,103,108,101,32,109,97,114,107,101,114,72,101,105,103,104,116,32,109,97,114,107,101,114,85,110,105,116,115,32,109,97,114,107,101,114,87,105,100,116,104,32,109,97,115,107,67,111,110,116,101,110,116,85,110,105,116,115,32,109,97,115,107,85,110,105,116,115,32,110,117,109,79,99,116,97,118,101,115,32,112,97,116,104,76,101,110,103,116,104,32,112,97,116,116,101,114,110,67,111,110,116,101,110,116,85,110,105,116,115,32,112,97,116,116,101,114,110,84,114,97,110,115,102,111,114,109,32,112,97,116,116,101,114,110,85,110,105,116,115,32,112,111,105,110,116,115,65,116,88,32,112,111,105,110,116,115,65,116,89,32,112,111,105,110,116,115,65,116,90,32,112,114,101,115,101,114,118,101,65,108,112,104,97,32,112,114,101,115,101,114,118,101,65,115,112,101,99,116,82,97,116,105,111,32,112,114,105,109,105,116,105,118,101,85,110,105,116,115,32,114,101,102,88,32,114,101,102,89,32,114,101,112,101,97,116,67,111,117,110,116,32,114,101,112,101,97,116,68,117,114,32,114,101,113,117,105,114,101,100,69,120,116,101,110,115,105,111,110,115,32,114,101,113,117,105,114,101,100,70,101,97,116,117,114,101,115,32,115,112,101,99,117,108,97,114,67,111,110,115,116,97,110,116,32,115,112,101,99,117,108,97,114,69,120,112,111,110,101,110,116,32,115,112,114,101,97,100,77,101,116,104,111,100,32,115,116,97,114,116,79,102,102,115,101,116,32,115,116,100,68,101,118,105,97,116,105,111,110,32,115,116,105,116,99,104,84,105,108,101,115,32,115,117,114,102,97,99,101,83,99,97,108,101,32,115,121,115,116,101,109,76,97,110,103,117,97,103,101,32,116,97,98,108,101,86,97,108,117,101,115,32,116,97,114,103,101,116,88,32,116,97,114,103,101,116,89,32,116,101,120,116,76,101,110,103,116,104,32,118,105,101,119,66,111,120,32,118,105,101,119,84,97,114,103,101,116,32,120,67,104,97,110,110,101,108,83,101,108,101,99,116,111,114,32,121,67,104,97,110,110,101,108,83,101,108,101,99,116,111,114,32,122,111,111,109,65,110,100,80,97,110]
abbrev aWr:List UInt8:=[97,108,116,71,108,121,112,104,32,97,108,116,71,108,121,112,104,68,101,102,32,97,108,116,71,108,121,112,104,73,116,101,109,32,97,110,105,109,97,116,101,67,111,108,111,114,32,97,110,105,109,97,116,101,77,111,116,105,111,110,32,97,110,105,109,97,116,101,84,114,97,110,115,102,111,114,109,32,99,108,105,112,80,97,116,104,32,102,101,66,108,101,110,100,32,102,101,67,111,108,111,114,77,97,116,114,105,120,32,102,101,67,111,109,112,111,110,101,110,116,84,114,97,110,115,102,101,114,32,102,101,67,111,109,112,111,115,105,116,101,32,102,101,67,111,110,118,111,108,118,101,77,97,116,114,105,120,32,102,101,68,105,102,102,117,115,101,76,105,103,104,116,105,110,103,32,102,101,68,105,115,112,108,97,99,101,109,101,110,116,77,97,112,32,102,101,68,105,115,116,97,110,116,76,105,103,104,116,32,102,101,68,114,111,112,83,104,97,100,111,119,32,102,101,70,108,111,111,100,32,102,101,70,117,110,99,65,32,102,101,70,117,110,99,66,32,102,101,70,117,110,99,71,32,102,101,70,117,110,99,82,32,102,101,71,97,117,115,115,105,97,110,66,108,117,114,32,102,101,73,109,97,103,101,32,102,101,77,101,114,103,101,32,102,101,77,101,114,103,101,78,111,100,101,32,102,101,77,111,114,112,104,111,108,111,103,121,32,102,101,79,102,102,115,101,116,32,102,101,80,111,105,110,116,76,105,103,104,116,32,102,101,83,112,101,99,117,108,97,114,76,105,103,104,116,105,110,103,32,102,101,83,112,111,116,76,105,103,104,116,32,102,101,84,105,108,101,32,102,101,84,117,114,98,117,108,101,110,99,101,32,102,111,114,101,105,103,110,79,98,106,101,99,116,32,103,108,121,112,104,82,101,102,32,108,105,110,101,97,114,71,114,97,100,105,101,110,116,32,114,97,100,105,97,108,71,114,97,100,105,101,110,116,32,116,101,120,116,80,97,116,104]
abbrev aWs:List UInt8:=[97,100,100,114,101,115,115,32,97,114,116,105,99,108,101,32,97,115,105,100,101,32,98,108,111,99,107,113,117,111,116,101,32,98,117,116,116,111,110,32,99,101,110,116,101,114,32,100,101,116,97,105,108,115,32,100,105,97,108,111,103,32,100,105,114,32,100,105,118,32,100,108,32,102,105,101,108,100,115,101,116,32,102,105,103,99,97,112,116,105,111,110,32,102,105,103,117,114,101,32,102,111,111,116,101,114,32,104,101,97,100,101,114,32,104,103,114,111,117,112,32,108,105,115,116,105,110,103,32,109,97,105,110,32,109,101,110,117,32,110,97,118,32,111,108,32,112,114,101,32,115,101,97,114,99,104,32,115,101,99,116,105,111,110,32,115,117,109,109,97,114,121,32,117,108]
abbrev aWt:List UInt8:=[98,97,115,101,32,98,97,115,101,102,111,110,116,32,98,103,115,111,117,110,100,32,108,105,110,107,32,109,101,116,97,32,110,111,102,114,97,109,101,115,32,115,99,114,105,112,116,32,115,116,121,108,101,32,116,101,109,112,108,97,116,101,32,116,105,116,108,101]
abbrev aWu:List UInt8:=[104,116,109,108]
abbrev aWv:List UInt8:=[97,100,100,114,101,115,115,32,97,114,116,105,99,108,101,32,97,115,105,100,101,32,98,108,111,99,107,113,117,111,116,101,32,99,101,110,116,101,114,32,100,101,116,97,105,108,115,32,100,105,97,108,111,103,32,100,105,114,32,100,105,118,32,100,108,32,102,105,101,108,100,115,101,116,32,102,105,103,99,97,112,116,105,111,110,32,102,105,103,117,114,101,32,102,111,111,116,101,114,32,104,101,97,100,101,114,32,104,103,114,111,117,112,32,109,97,105,110,32,109,101,110,117,32,110,97,118,32,111,108,32,112,32,115,101,97,114,99,104,32,115,101,99,116,105,111,110,32,115,117,109,109,97,114,121,32,117,108]
abbrev aWw:List UInt8:=[116,101,109,112,108,97,116,101]
abbrev aWx:List UInt8:=[98,117,116,116,111,110]
abbrev aWy:List UInt8:=[104,101,97,100]
abbrev aWz:List UInt8:=[98,111,100,121]
abbrev aWA:List UInt8:=[102,114,97,109,101,115,101,116]
abbrev aWB:List UInt8:=[97,114,101,97,32,98,114,32,101,109,98,101,100,32,105,109,103,32,105,109,97,103,101,32,107,101,121,103,101,110,32,119,98,114,32,105,110,112,117,116,32,112,97,114,97,109,32,115,111,117,114,99,101,32,116,114,97,99,107,32,104,114]
abbrev aWC:List UInt8:=[99,97,112,116,105,111,110,32,99,111,108,32,99,111,108,103,114,111,117,112,32,102,114,97,109,101,32,104,101,97,100,32,116,98,111,100,121,32,116,100,32,116,102,111,111,116,32,116,104,32,116,104,101,97,100,32,116,114]
abbrev aWD:List UInt8:=[97,32,98,32,98,105,103,32,99,111,100,101,32,101,109,32,102,111,110,116,32,105,32,110,111,98,114,32,115,32,115,109,97,108,108,32,115,116,114,105,107,101,32,115,116,114,111,110,103,32,116,116,32,117]
abbrev aWE:List UInt8:=[45,47,47,87,51,67,47,47,68,84,68,32,72,84,77,76,32,69,120,112,101,114,105,109,101,110,116,97,108,32,49,57,57,54,48,55,49,50,47,47]
abbrev aWF:List UInt8:=[110,111,115,99,114,105,112,116]
abbrev aWG:List UInt8:=[45,47,47,87,51,67,47,47,68,84,68,32,72,84,77,76,32,69,120,112,101,114,105,109,101,110,116,97,108,32,57,55,48,52,50,49,47,47]
abbrev aWH:List UInt8:=[111,112,116,105,111,110]
abbrev aWI:List UInt8:=[104,49,32,104,50,32,104,51,32,104,52,32,104,53,32,104,54]
abbrev aWJ:List UInt8:=[98,32,98,105,103,32,99,111,100,101,32,101,109,32,102,111,110,116,32,105,32,115,32,115,109,97,108,108,32,115,116,114,105,107,101,32,115,116,114,111,110,103,32,116,116,32,117]
abbrev aWK:List UInt8:=[45,47,47,87,51,67,47,47,68,84,68,32,72,84,77,76,32,52,46,48,32,84,114,97,110,115,105,116,105,111,110,97,108,47,47]
abbrev aWL:List UInt8:=[116,97,98,108,101]
abbrev aWM:List UInt8:=[97,110,110,111,116,97,116,105,111,110,45,120,109,108]
abbrev aWN:List UInt8:=[97,112,112,108,101,116,32,109,97,114,113,117,101,101,32,111,98,106,101,99,116]
abbrev aWO:List UInt8:=[116,105,116,108,101]
abbrev aWP:List UInt8:=[98,97,115,101,102,111,110,116,32,98,103,115,111,117,110,100,32,108,105,110,107,32,109,101,116,97,32,110,111,102,114,97,109,101,115,32,115,116,121,108,101]
abbrev aWQ:List UInt8:=[45,47,47,87,51,67,47,47,68,84,68,32,72,84,77,76,32,52,46,48,32,70,114,97,109,101,115,101,116,47,47]
abbrev aWR:List UInt8:=[45,47,47,87,51,67,47,47,68,84,68,32,72,84,77,76,32,51,32,49,57,57,53,45,48,51,45,50,52,47,47]
abbrev aWS:List UInt8:=[116,101,120,116,97,114,101,97,32,120,109,112,32,105,102,114,97,109,101,32,110,111,101,109,98,101,100,32,112,108,97,105,110,116,101,120,116]
abbrev aWT:List UInt8:=[110,111,98,114]
abbrev aWU:List UInt8:=[102,111,114,109]
abbrev aWV:List UInt8:=[99,97,112,116,105,111,110]
abbrev aWW:List UInt8:=[99,97,112,116,105,111,110,32,99,111,108,103,114,111,117,112,32,116,98,111,100,121,32,116,102,111,111,116,32,116,104,101,97,100]
abbrev aWX:List UInt8:=[45,47,47,87,51,67,47,47,68,84,68,32,72,84,77,76,32,52,46,48,49,32,84,114,97,110,115,105,116,105,111,110,97,108,47,47]
abbrev aWY:List UInt8:=[45,47,47,73,69,84,70,47,47,68,84,68,32,72,84,77,76,32,76,101,118,101,108,32]
abbrev aWZ:List UInt8:=[45,47,47,73,69,84,70,47,47,68,84,68,32,72,84,77,76,32,83,116,114,105,99,116]
abbrev aW0:List UInt8:=[98,97,115,101,32,98,97,115,101,102,111,110,116,32,98,103,115,111,117,110,100,32,108,105,110,107,32,109,101,116,97]
abbrev aW1:List UInt8:=[45,47,47,87,51,79,47,47,68,84,68,32,87,51,32,72,84,77,76,32,51,46,48,47,47]
abbrev aW2:List UInt8:=[45,47,47,87,51,79,47,47,68,84,68,32,87,51,32,72,84,77,76,32,83,116,114,105,99,116,32,51,46,48,47,47,69,78,47,47]
abbrev aW3:List UInt8:=[99,111,108,103,114,111,117,112]
abbrev aW4:List UInt8:=[45,47,87,51,67,47,68,84,68,32,72,84,77,76,32,52,46,48,32,84,114,97,110,115,105,116,105,111,110,97,108,47,69,78]
abbrev aW5:List UInt8:=[45,47,47,73,69,84,70,47,47,68,84,68,32,72,84,77,76,32,50,46,49,69,47,47]
abbrev aW6:List UInt8:=[115,101,108,101,99,116]
abbrev aW7:List UInt8:=[115,99,114,105,112,116]
abbrev aW8:List UInt8:=[112,108,97,105,110,116,101,120,116]
abbrev aW9:List UInt8:=[45,47,47,87,51,67,47,47,68,84,68,32,72,84,77,76,32,52,46,48,49,32,70,114,97,109,101,115,101,116,47,47]
abbrev aXa:List UInt8:=[102,111,114,101,105,103,110,79,98,106,101,99,116]
abbrev aXb:List UInt8:=[111,112,116,103,114,111,117,112]
abbrev aXc:List UInt8:=[104,101,97,100,32,116,101,109,112,108,97,116,101,32,98,111,100,121,32,104,116,109,108,32,98,114]
abbrev aXd:List UInt8:=[45,47,47,73,69,84,70,47,47,68,84,68,32,72,84,77,76,32,50,46,48]
abbrev aXe:List UInt8:=[45,47,47,87,51,67,47,47,68,84,68,32,87,51,32,72,84,77,76,47,47]
abbrev aXf:List UInt8:=[116,102,111,111,116]
abbrev aXg:List UInt8:=[104,101,97,100,32,98,111,100,121,32,104,116,109,108,32,98,114]
abbrev aXh:List UInt8:=[45,47,47,87,51,67,47,47,68,84,68,32,72,84,77,76,32,51,46,50]
abbrev aXi:List UInt8:=[116,98,111,100,121]
abbrev aXj:List UInt8:=[116,104,101,97,100]
abbrev aXk:List UInt8:=[45,47,47,73,69,84,70,47,47,68,84,68,32,72,84,77,76,32,51]
abbrev aXl:List UInt8:=[45,47,47,73,69,84,70,47,47,68,84,68,32,72,84,77,76,47,47]
abbrev aXm:List UInt8:=[97,112,112,108,105,99,97,116,105,111,110,47,120,104,116,109,108,43,120,109,108]
abbrev aXn:List UInt8:=[109,97,116,104]
abbrev aXo:List UInt8:=[116,101,109,112,108,97,116,101,32,98,111,100,121,32,104,116,109,108,32,98,114]
abbrev aXp:List UInt8:=[116,101,120,116,97,114,101,97]
abbrev aXq:List UInt8:=[120,108,105,110,107,58,97,114,99,114,111,108,101]
abbrev aXr:List UInt8:=[104,105,100,100,101,110]
abbrev aXs:List UInt8:=[120,108,105,110,107,58,97,99,116,117,97,116,101]
abbrev aXt:List UInt8:=[120,108,105,110,107,58,116,105,116,108,101]
abbrev aXu:List UInt8:=[120,109,108,110,115,58,120,108,105,110,107]
abbrev aXv:List UInt8:=[110,111,102,114,97,109,101,115]
abbrev aXw:List UInt8:=[120,109,108,110,115]
abbrev aXx:List UInt8:=[120,108,105,110,107,58,104,114,101,102]
abbrev aXy:List UInt8:=[120,108,105,110,107,58,114,111,108,101]
abbrev aXz:List UInt8:=[120,108,105,110,107,58,115,104,111,119]
abbrev aXA:List UInt8:=[120,108,105,110,107,58,116,121,112,101]
abbrev aXB:List UInt8:=[111,112,116,103,114,111,117,112,32,111,112,116,105,111,110]
abbrev aXC:List UInt8:=[105,102,114,97,109,101]
abbrev aXD:List UInt8:=[116,121,112,101]
abbrev aXE:List UInt8:=[109,97,114,113,117,101,101]
abbrev aXF:List UInt8:=[114,117,98,121]
abbrev aXG:List UInt8:=[110,111,102,114,97,109,101,115,32,115,116,121,108,101]
abbrev aXH:List UInt8:=[100,101,102,105,110,105,116,105,111,110,117,114,108]
abbrev aXI:List UInt8:=[120,109,108,58,115,112,97,99,101]
abbrev aXJ:List UInt8:=[100,101,102,105,110,105,116,105,111,110,85,82,76]
abbrev aXK:List UInt8:=[104,101,97,100,32,110,111,115,99,114,105,112,116]
abbrev aXL:List UInt8:=[97,100,100,114,101,115,115,32,100,105,118,32,112]
abbrev aXM:List UInt8:=[114,116,99]
abbrev aXN:List UInt8:=[97,112,112,108,101,116]
abbrev aXO:List UInt8:=[115,111,117,114,99,101]
abbrev aXP:List UInt8:=[120,109,108,58,108,97,110,103]
abbrev aXQ:List UInt8:=[98,97,115,101,102,111,110,116]
abbrev aXR:List UInt8:=[111,98,106,101,99,116]
abbrev aXS:List UInt8:=[112,114,101,32,108,105,115,116,105,110,103]
abbrev aXT:List UInt8:=[114,98,32,114,116,99,32,114,112,32,114,116]
abbrev aXU:List UInt8:=[110,111,115,99,114,105,112,116,32,98,114]
abbrev aXV:List UInt8:=[99,111,108]
abbrev aXW:List UInt8:=[105,110,112,117,116]
abbrev aXX:List UInt8:=[98,103,115,111,117,110,100]
abbrev aXY:List UInt8:=[115,116,121,108,101]
abbrev aXZ:List UInt8:=[97,100,100,114,101,115,115]
abbrev aX0:List UInt8:=[97,114,99,114,111,108,101]
abbrev aX1:List UInt8:=[105,109,97,103,101]
abbrev aX2:List UInt8:=[97,99,116,117,97,116,101]
abbrev aX3:List UInt8:=[98,108,111,99,107,113,117,111,116,101]
abbrev aX4:List UInt8:=[102,105,103,99,97,112,116,105,111,110]
abbrev aX5:List UInt8:=[112,32,108,105,32,100,100,32,100,116]
abbrev aX6:List UInt8:=[112,97,114,97,109]
abbrev aX7:List UInt8:=[116,114,97,99,107]
abbrev aX8:List UInt8:=[115,116,114,105,107,101]
abbrev aX9:List UInt8:=[115,116,114,111,110,103]
abbrev aYa:List UInt8:=[116,101,120,116,47,104,116,109,108]
abbrev aYb:List UInt8:=[104,116,109,108,32,98,111,100,121]
abbrev aYc:List UInt8:=[102,105,101,108,100,115,101,116]
abbrev aYd:List UInt8:=[105,109,103]
abbrev aYe:List UInt8:=[120,109,112]
abbrev aYf:List UInt8:=[100,101,115,99]
abbrev aYg:List UInt8:=[101,110,99,111,100,105,110,103]
abbrev aYh:List UInt8:=[120,108,105,110,107]
abbrev aYi:List UInt8:=[109,97,116,104,32,115,118,103]
abbrev aYj:List UInt8:=[108,105,32,100,100,32,100,116]
abbrev aYk:List UInt8:=[115,109,97,108,108]
abbrev aYl:List UInt8:=[100,100,32,100,116]
abbrev aYn:List UInt8:=[115,112,97,99,101]
abbrev aYt:List UInt8:=[102,111,110,116]
abbrev aYu:List UInt8:=[104,114,101,102]
abbrev aYv:List UInt8:=[114,111,108,101]
abbrev aYw:List UInt8:=[115,104,111,119]
abbrev aYx:List UInt8:=[108,105,110,107]
theorem Ab{p:Prop}(h:p:=by omega):p:=h
theorem AB{p:Prop}(h:p:=by simp):p:=h
theorem AA{p:Prop}(h:p:=by decide):p:=h
theorem Ed{p:Prop}(h:p:=by decide +kernel):p:=h
theorem HC{p:Prop}(h:p:=by simp only; omega):p:=h
theorem Et{p:Prop}(h:p:=by simp; omega):p:=h
section
section
namespace Go.Am
abbrev Ah:=List UInt8
inductive Aa where
 |bool (b:Bool)
 |int (k:IntKind) (n:Int)
 |str (s:Ah)
 |ptr (p:Option (Nat×Nat))
 |B9 (cells:List Aa)
 |sl (size:Nat) (Ax:List (List Aa))
 |slnil
 |GX (size:Nat)
 |Dn (id off len size:Nat)
 |map (m:Option Nat)
 |func (fn:Fn) (first captured:List Aa)
 |nilFunc
 |iface (t:TypeId) (v:Aa)
 |nilIface
 |agg (cells:List Aa)
 |tuple (vs:List Aa)
 deriving Inhabited
mutual
def Aa.beq:Aa->Aa->Bool
 | .bool a,.bool b=>a==b
 | .int k a,.int l b=>k==l&&a==b
 | .str a,.str b=>a==b
 | .ptr a,.ptr b=>a==b
 | .B9 a,.B9 b=>Aa.SZ a b
 | .sl n a,.sl m b=>n==m&&Aa.S0 a b
 | .slnil,.slnil=>true
 | .GX a,.GX b=>a==b
 | .Dn a b c d,.Dn a' b' c' e=>a==a'&&b==b'&&c==c'&&d==e
 | .map a,.map b=>a==b
 | .func f a b,.func f' a' b'=>f==f'&&Aa.SZ a a'&&Aa.SZ b b'
 | .nilFunc,.nilFunc=>true
 | .iface t a,.iface t' a'=>t==t'&&Aa.beq a a'
 | .nilIface,.nilIface=>true
 | .agg a,.agg b=>Aa.SZ a b
 | .tuple a,.tuple b=>Aa.SZ a b
 |_,_=>false
def Aa.SZ:List Aa->List Aa->Bool
 |[],[]=>true
 |a::x,b::y=>Aa.beq a b&&Aa.SZ x y
 |_,_=>false
def Aa.S0:List (List Aa)->List (List Aa)->Bool
 |[],[]=>true
 |a::x,b::y=>Aa.SZ a b&&Aa.S0 x y
 |_,_=>false
end
def Aa.cells:Aa->List Aa
 | .agg cs=>cs
 | .tuple _=>[]
 |v=>[v]
inductive GJ where
 |cells (cs:List Aa)
 |map (es:List (Aa×Aa))
 |Ef
 deriving Inhabited
abbrev Ai:=List GJ
inductive vg where
 |copy (size:Nat)
 |clear (size:Nat) (zero:List Aa)
 |k_ (size:Nat) (lo hi:Bool)
 |qO (size:Nat)
 |aHw (t:TypeId)
 |lf (zero:Aa) (ok:Bool)
 |O2 (zero:Aa)
 |Xk (zero:Aa)
 |Ld
 |Uo
 |lg
 |Xl (g:Ai->List Aa->Option (Ai×Aa))
def vg.eD:vg->Bool
 | .qO _| .clear _ _| .Ld| .Uo=>true
 |_=>false
inductive EM where
 |undef
 |skip
 |val (v:Aa)
 |P9 (b:Bool)
 |BT (v:Aa)
 |box (ver:Nat) (cells:List Aa) (BT:List Nat)
 |Fu (s off:Nat)
 deriving Inhabited
abbrev BR:=List EM
def BR.at(U:BR)(s:Nat):EM:=U.getD s .undef
def EM.HH:EM->Option Aa
 | .val v| .BT v=>some v
 | .P9 b=>some (.bool b)
 |_=>none
inductive FK where
 |b|i|s
 deriving DecidableEq,Inhabited
inductive NK where
 |sl|fn|mp
 deriving DecidableEq,Inhabited
inductive ZG where
 |int (op:BinOp)
 |str (op:BinOp)
 |beq (neg:Bool)
 |geq (neg:Bool) (ks:List FK)
 |Wx (neg:Bool)
 |Gf (neg:Bool) (k:NK)
 |un (op:UnOp)
 |conv(k:IntKind)
 |pick
 |part (off:Nat) (n:Option Nat)
 |aCL (len size:Nat) (n:Option Nat)
 |VX
 |Gr (off:Nat)
 |GY (size:Nat)
 |Vh (len size:Nat)
 |len (isStr:Bool)
 |append (size bytes:Nat)
 |Rb (size:Nat) (isStr lo hi:Bool)
 |ext (i:Nat)
 |MW
 |CC (size:Nat)
 |GX (size:Nat)
 |C7 (zero:List Aa) (places:List (Nat×Nat))
 |Mr (isMax:Bool)
 |ZM
 |s2b
 |i2s
 deriving Inhabited
def Qg:Value->Option Aa
 | .bool b=>some (.bool b)
 | .int k n=>some (.int k n)
 | .string s=>some (.str s.data.toList)
 | .pointer none=>some (.ptr none)
 | .slice none 0 0=>some .slnil
 | .map none=>some (.map none)
 | .func fn f c=>if f.size=0/\c.size=0 then some (.func fn [] []) else none
 | .nilFunc=>some .nilFunc
 | .nilIface=>some .nilIface
 |_=>none
def MQ:List Value->Option (List Aa)
 |[]=>some []
 |v::vs=>match Qg v,MQ vs with
  |some a,some as=>some (a::as)
  |_,_=>none
def LM:Value->Option Aa
 | .agg cs=>(MQ cs.toList).map .agg
 |v=>Qg v
def Rc:Sem Value->Option Value
 | .pure v=>some v
 |_=>none
def AV:Nat:=140737488355328
def wG(op:BinOp)(k:IntKind)(a:Int)(l:IntKind)(b:Int):Option Aa:=
 (Rc (binOp op 0 (.int k a) (.int l b))).bind λv=>match v with
  | .int k n=>some (.int k n)
  | .bool b=>some (.bool b)
  |_=>none
def lO(op:BinOp)(a b:Ah):Option Aa:=
 match op with
 | .add=>if a.length+b.length<=9223372036854775807 then some (.str (a++b)) else none
 | .eql=>some (.bool (a==b))
 | .neq=>some (.bool (!(a==b)))
 | .lss=>some (.bool (Op.bytesLess a b))
 | .leq=>some (.bool (Op.bytesLess a b||a==b))
 | .gtr=>some (.bool (!(Op.bytesLess a b||a==b)))
 | .geq=>some (.bool (!(Op.bytesLess a b)))
 |_=>none
def N2:FK->Aa->Aa->Option Bool
 | .b,.bool a,.bool b=>some (a==b)
 | .i,.int k a,.int l b=>if k=l then some (a==b) else none
 | .s,.str a,.str b=>some (a==b)
 |_,_,_=>none
def Ez:List FK->List Aa->List Aa->Option Bool
 |[],[],[]=>some true
 |k::ks,a::x,b::y=>match N2 k a b,Ez ks x y with
  |some e,some es=>some (e&&es)
  |_,_=>none
 |_,_,_=>none
def wH:Aa->Aa->Option Bool
 | .ptr none,.ptr b=>some b.isNone
 | .ptr (some _),.ptr none=>some false
 | .ptr (some a),.ptr (some b)=>if a=b then some true else none
 | .ptr none,.B9 _=>some false
 | .B9 _,.ptr none=>some false
 |_,_=>none
def wI:NK->Aa->Aa->Option Bool
 | .sl,.slnil,.slnil=>some true
 | .sl,.slnil,.sl _ _=>some false
 | .sl,.sl _ _,.slnil=>some false
 | .sl,.slnil,.GX _=>some false
 | .sl,.GX _,.slnil=>some false
 | .sl,.slnil,.Dn _ _ _ _=>some false
 | .sl,.Dn _ _ _ _,.slnil=>some false
 | .fn,.nilFunc,.nilFunc=>some true
 | .fn,.nilFunc,.func _ _ _=>some false
 | .fn,.func _ _ _,.nilFunc=>some false
 | .mp,.map none,.map b=>some b.isNone
 | .mp,.map (some _),.map none=>some false
 |_,_,_=>none
def FG(cs:List Aa)(off:Nat):Option Nat->Option Aa
 |none=>cs[off]?
 |some n=>if off+n<=cs.length then some (.agg ((cs.drop off).take n)) else none
def MX(n:Int)(len:Nat):Option Nat:=if 0<=n/\n<len then some n.toNat else none
def EP(n:Int)(top:Nat):Option Nat:=if 0<=n/\n<=top then some n.toNat else none
def DY(lo hi:Bool)(len:Nat)(as:List Aa):Option (Nat×Nat):=
 match lo,hi with
 |false,false=>match as with
  |[]=>some (0,len)
  |_=>none
 |false,true=>match as with
  |[.int _ h]=>(EP h len).map λh=>(0,h)
  |_=>none
 |true,false=>match as with
  |[.int _ l]=>(EP l len).map λl=>(l,len)
  |_=>none
 |true,true=>match as with
  |[.int _ l,.int _ h]=>(EP h len).bind λh=>(EP l h).map λl=>(l,h)
  |_=>none
def NF:List (List Aa)->Option Ah
 |[]=>some []
 |[.int .u8 n]::rs=>(NF rs).map λl=>n.toNat.toUInt8::l
 |_=>none
def C8(s:Ah):List (List Aa):=s.map λb=>[.int .u8 b.toNat]
def DZ(size bytes:Nat)(s:Aa)(Ax:List (List Aa)):Option Aa:=
 match Ax with
 |[]=>match s with
  | .slnil=>some .slnil
  | .GX z=>if z=size then some (.GX z) else none
  | .sl z r=>if z=size then some (.sl z r) else none
  |_=>none
 |Ax=>match s with
  | .slnil=>if Ax.length*bytes<=AV then some (.sl size Ax) else none
  | .GX z=>if z=size/\Ax.length*bytes<=AV then some (.sl size Ax) else none
  | .sl z r=>if z=size/\(r.length+Ax.length)*bytes<=AV then some (.sl size (r++Ax)) else none
  |_=>none
def Cl(cs:List Aa):List ((Nat×Nat)×Aa)->Option (List Aa)
 |[]=>some cs
 |((off,size),v)::rest=>if 0<size/\v.cells.length=size/\off+size<=cs.length then Cl (cs.take off++v.cells++cs.drop (off+size)) rest else none
def aBx(k:IntKind)(n:Int):Option Aa:=
 (Rc (Op.unary .xor (.int k n))).bind λv=>match v with
  | .int k n=>some (.int k n)
  |_=>none
def aCM:UnOp->Aa->Option Aa
 | .not,.bool b=>some (.bool (!b))
 | .neg,.int k n=>some (.int k (k.wrap (0 -n)))
 | .xor,.int k n=>aBx k n
 |_,_=>none
def Xm(p:Aa)(off:Nat):Option Aa:=
 match p with
 | .B9 cs=>some (.B9 (cs.drop off))
 | .ptr (some (id,o))=>some (.ptr (some (id,o+off)))
 |_=>none
def elemOf(size:Nat)(s:Aa)(i:Int):Option Aa:=
 match s with
 | .sl z Ax=>if z=size then(if 0<=i then(Ax[i.toNat]?).map .B9 else none) else none
 | .Dn id off len z=>if z=size then(MX i len).map λi=> .ptr (some (id,off+i*size)) else none
 |_=>none
def lenOf(isStr:Bool)(s:Aa):Option Aa:=
 match s with
 | .sl _ Ax=>if isStr then none else some (.int .i64 Ax.length)
 | .Dn _ _ n _=>if isStr then none else some (.int .i64 n)
 | .slnil=>if isStr then none else some (.int .i64 0)
 | .GX _=>if isStr then none else some (.int .i64 0)
 | .str s=>if isStr then some (.int .i64 s.length) else none
 |_=>none
def IW(size bytes:Nat)(s x:Aa):Option Aa:=
 match x with
 | .slnil=>DZ size bytes s []
 | .GX z=>if z=size then DZ size bytes s [] else none
 | .sl z Ax=>if z=size then DZ size bytes s Ax else none
 | .str x=>if size=1 then DZ size bytes s (C8 x) else none
 |_=>none
def Jl(size:Nat)(isStr lo hi:Bool)(s:Aa)(as:List Aa):Option Aa:=
 match s with
 | .str s=>if isStr then(DY lo hi s.length as).map λ(l,h)=> .str ((s.take h).drop l) else none
 | .sl z Ax=>if isStr=false/\z=size then(DY lo hi Ax.length as).map λ(l,h)=> .sl z ((Ax.take h).drop l) else none
 | .Dn id off n z=>if isStr=false/\z=size then(DY lo hi n as).bind λ(l,h)=>if l<n then some (.Dn id (off+l*z) (h-l) z) else some (.sl z []) else none
 | .slnil=>if isStr then none else(DY lo hi 0 as).map λ_=> .slnil
 |_=>none
def lP:Aa->Option Aa
 | .ptr (some p)=>some (.ptr (some p))
 | .B9 cs=>some (.B9 cs)
 | .func (.func f) a b=>some (.func (.func f) a b)
 |_=>none
def eE:Aa->Option Aa
 | .sl 1 Ax=>(NF Ax).map .str
 | .slnil=>some (.str [])
 |_=>none
def AH(p:ZG)(args:List Aa):Option Aa:=
 match p with
 | .int op=>match args with
  |[.int k a,.int l b]=>wG op k a l b
  |_=>none
 | .str op=>match args with
  |[.str a,.str b]=>lO op a b
  |_=>none
 | .beq neg=>match args with
  |[.bool a,.bool b]=>some (.bool ((a==b) != neg))
  |_=>none
 | .geq neg ks=>match args with
  |[.agg a,.agg b]=>(Ez ks a b).map λe=> .bool (e != neg)
  |_=>none
 | .Wx neg=>match args with
  |[a,b]=>(wH a b).map λe=> .bool (e != neg)
  |_=>none
 | .Gf neg k=>match args with
  |[a,b]=>(wI k a b).map λe=> .bool (e != neg)
  |_=>none
 | .un op=>match args with
  |[v]=>aCM op v
  |_=>none
 | .conv k=>match args with
  |[.int _ n]=>some (.int k (k.wrap n))
  |_=>none
 | .i2s=>match args with
  |[.int _ n]=>some (.str (Utf8.encode n).data.toList)
  |_=>none
 | .pick=>match args with
  |[.bool c,a,b]=>some (if c then a else b)
  |_=>none
 | .part off n=>match args with
  |[.agg cs]=>FG cs off n
  |_=>none
 | .aCL len size n=>match args with
  |[.agg cs,.int _ i]=>(MX i len).bind λi=>FG cs (i*size) n
  |_=>none
 | .VX=>match args with
  |[.str s,.int _ i]=>if 0<=i then(s[i.toNat]?).map λb=> .int .u8 b.toNat else none
  |_=>none
 | .Gr off=>match args with
  |[p]=>Xm p off
  |_=>none
 | .GY size=>match args with
  |[s,.int _ i]=>elemOf size s i
  |_=>none
 | .Vh len size=>match args with
  |[p,.int _ i]=>(MX i len).bind λi=>Xm p (i*size)
  |_=>none
 | .len isStr=>match args with
  |[s]=>lenOf isStr s
  |_=>none
 | .append size bytes=>match args with
  |[s,x]=>IW size bytes s x
  |_=>none
 | .Rb size isStr lo hi=>match args with
  |s::as=>Jl size isStr lo hi s as
  |_=>none
 | .ext i=>match args with
  |[.tuple vs]=>vs[i]?
  |_=>none
 | .MW=>match args with
  |[v]=>lP v
  |_=>none
 | .CC size=>if args.all (λa=>a.cells.length==size)&&decide (args.length*size<=16777216) then some (.sl size (args.map (·.cells))) else none
 | .GX size=>if args.isEmpty then some (.GX size) else none
 | .C7 zero places=>if places.length=args.length then(Cl zero (places.zip args)).map .agg else none
 | .Mr isMax=>match args with
  |[.int k a,.int l b]=>if k=l then some (.int k (if isMax then(if b>a then b else a) else(if b<a then b else a))) else none
  |_=>none
 | .ZM=>match args with
  |[v]=>eE v
  |_=>none
 | .s2b=>match args with
  |[.str s]=>if s.length<=AV then some (.sl 1 (C8 s)) else none
  |_=>none
inductive Gs where
 |normal
 |exit (id:Nat)
 |ret
 deriving DecidableEq,Inhabited
inductive IT where
 |ret (x:Gs) (vs:List Aa)
 |fail
 |op (o:ZG) (args:List Aa) (k:Aa->IT)
 |cells (n:Nat) (v:Aa) (k:List Aa->IT)
 |A3 (c:Aa) (t e:IT)
 |load (n:Option Nat) (p:Aa) (k:Aa->IT)
 |store (n:Nat) (p v:Aa) (k:IT)
 |alloc (n:Nat) (v:Aa) (k:Aa->IT)
 |call (f:FuncId) (args:List Aa) (k:Aa->IT)
 |EG (fn:Aa) (args:List Aa) (k:Aa->IT)
 |BH (f:FuncId) (args:List Aa) (k:Aa->IT)
 |loop (key:Nat) (init:List Aa) (body:List Aa->IT) (k:Gs->List Aa->IT)
 |GK (key:Nat) (t:IT) (k:Gs->List Aa->IT)
 |same (a b:Aa) (k:IT)
 |Og (k:Aa->IT)
 |Ig (m key v:Aa) (k:IT)
 |MY (zero:Aa) (ok:Bool) (m key:Aa) (k:Aa->IT)
 |make (size bytes:Nat) (zero:List Aa) (len cap:Aa) (k:Aa->IT)
 |Kf (size bytes:Nat) (s x:Aa) (k:Aa->IT)
 |Fi (s:Aa) (k:Aa->IT)
 |VY (v:Aa) (k:Aa->IT)
 |IX (off:Nat) (p:Aa) (k:IT)
 |GL (size bytes:Nat) (s x:Aa) (k:Aa->IT)
 |GI (size bytes:Nat) (s x:Aa) (k:Aa->IT)
 |mem (o:vg) (args:List Aa) (k:Aa->IT)
 |wJ (f:FuncId) (args:List Aa) (k:Aa->IT)
 deriving Inhabited
def Aa.Nx:Aa->Bool
 | .bool _| .int _ _| .str _=>true
 |_=>false
def Bn(h:Ai)(n:Option Nat):Aa->Option Aa
 | .B9 cs=>FG cs 0 n
 | .ptr (some (id,off))=>match h[id]? with
  |some (.cells cs)=>FG cs off n
  |_=>none
 |_=>none
def C9(h:Ai)(n:Nat)(p v:Aa):Option Ai:=
 match p with
 | .ptr (some (id,off))=>match h[id]? with
  |some (.cells cs)=>if v.cells.length=n/\off+n<=cs.length then some (h.set id (.cells (cs.take off++v.cells++cs.drop (off+n)))) else none
  |_=>none
 |_=>none
def Xn(h:Ai)(n:Nat)(v:Aa):Option (Ai×Aa):=
 if v.cells.length=n then some (h++[.cells v.cells],.ptr (some (h.length,0))) else none
def S1(s:Ah):List (Aa×Aa)->Option (Option Aa)
 |[]=>some none
 |(.str t,v)::es=>if s=t then some (some v) else S1 s es
 |_=>none
def Oh(s:Ah)(v:Aa):List (Aa×Aa)->Option (List (Aa×Aa))
 |[]=>some [(.str s,v)]
 |(.str t,v')::es=>if s=t then some ((.str s,v)::es) else(Oh s v es).map λes=>(.str t,v')::es
 |_=>none
def RN(h:Ai)(m k v:Aa):Option Ai:=
 match m,k with
 | .map (some id),.str s=>match h[id]? with
  |some (.map es)=>(Oh s v es).map λes=>h.set id (.map es)
  |_=>none
 |_,_=>none
def Uq(h:Ai)(m k:Aa):Option (Option Aa):=
 match m,k with
 | .map none,.str _=>some none
 | .map (some id),.str s=>match h[id]? with
  |some (.map es)=>S1 s es
  |_=>none
 |_,_=>none
def PV(h:Ai)(zero:Aa)(ok:Bool)(m k:Aa):Option Aa:=
 (Uq h m k).map λr=>match r with
  |some v=>if ok then .tuple [v,.bool true] else v
  |none=>if ok then .tuple [zero,.bool false] else zero
def Xo(h:Ai)(size bytes:Nat)(zero:List Aa):Aa->Aa->Option (Ai×Aa)
 | .int .i64 n,.int .i64 c=>if 0<=n/\n<=c/\c.toNat*bytes<=AV/\zero.length=size then
  some (h++[.cells (List.replicate c.toNat zero).flatten],.Dn h.length 0 n.toNat size) else none
 |_,_=>none
def O3(size:Nat):Aa->Bool
 | .slnil=>true
 | .GX z=>z==size
 | .sl z []=>z==size
 |_=>false
def Lf(h:Ai)(size bytes:Nat)(s:Aa):Aa->Option (Ai×Aa)
 | .sl z Ax=>if O3 size s then(match Ax with
   |[]=>some (h,s)
   |Ax=>if z=size/\Ax.length*bytes<=AV then some (h++[.cells Ax.flatten],.Dn h.length 0 Ax.length size) else none)
  else none
 | .slnil=>if O3 size s then some (h,s) else none
 | .GX z=>if O3 size s&&z==size then some (h,s) else none
 |_=>none
def Jm(h:Ai):Aa->Option (Ai×Aa)
 | .str s=>if s.length<=AV then some (h++[.cells (s.map λb=> .int .u8 b.toNat)],.Dn h.length 0 s.length 1) else none
 |_=>none
def CG(cs:List Aa)(z:Nat):Nat->Nat->List (List Aa)
 |_,0=>[]
 |off,n+1=>(cs.drop off).take z::CG cs z (off+z) n
def LW(h:Ai):Aa->Option (Ai×Aa)
 | .Dn id off n z=>match h[id]? with
  |some (.cells cs)=>if off+n*z<=cs.length then some (h.set id .Ef,.sl z (CG cs z off n)) else none
  |_=>none
 |v=>some (h,v)
def Lg(h:Ai)(off:Nat)(p:Aa):Option Ai:=
 match p with
 | .ptr none=>some h
 | .ptr (some (id,o))=>match h[id]? with
  |some (.cells cs)=>match cs[o+off]? with
   |some v=>(LW h v).bind λ(h',v')=>match h'[id]? with
    |some (.cells Hp)=>some (h'.set id (.cells (Hp.set (o+off) v')))
    |_=>none
   |none=>none
  |_=>none
 |_=>none
def H0(h:Ai)(size:Nat):Aa->Option (List (List Aa))
 | .slnil=>some []
 | .GX z=>if z=size then some [] else none
 | .sl z Ax=>if z=size then some Ax else none
 | .str s=>if size=1 then some (C8 s) else none
 | .Dn id off n z=>if z=size then match h[id]? with
   |some (.cells cs)=>if off+n*z<=cs.length then some (CG cs z off n) else none
   |_=>none
  else none
 |_=>none
def GZ(h:Ai)(size bytes:Nat)(s x:Aa):Option (Ai×Aa):=
 match H0 h size x with
 |none=>none
 |some []=>match s with
  | .slnil=>some (h,s)
  | .GX z=>if z=size then some (h,s) else none
  | .Dn _ _ _ z=>if z=size then some (h,s) else none
  |_=>none
 |some Ax=>match s with
  | .slnil=>if Ax.length*bytes<=AV then some (h++[.cells Ax.flatten],.Dn h.length 0 Ax.length size) else none
  | .GX z=>if z=size/\Ax.length*bytes<=AV then some (h++[.cells Ax.flatten],.Dn h.length 0 Ax.length size) else none
  | .Dn id off n z=>match h[id]? with
   |some (.cells cs)=>if z=size then
     (if off+(n+Ax.length)*z<=cs.length then some (h.set id (.cells (cs.take (off+n*z)++Ax.flatten++cs.drop (off+(n+Ax.length)*z))),.Dn id off (n+Ax.length) z)
     else if off=0/\n*z<=cs.length/\(n+Ax.length)*bytes<=AV then some (h.set id .Ef++[.cells (cs.take (n*z)++Ax.flatten)],.Dn h.length 0 (n+Ax.length) z) else none)
    else none
   |_=>none
  |_=>none
def RO(h:Ai)(size bytes:Nat)(s x:Aa):Option Aa:=(H0 h size x).bind (DZ size bytes s)
def vh(h:Ai)(size:Nat)(d x:Aa):Option (Ai×Aa):=
 match H0 h size x with
 |none=>none
 |some Ax=>match d with
  | .slnil=>if Ax.length=0 then some (h,.int .i64 0) else none
  | .Dn id off n z=>match h[id]? with
   |some (.cells cs)=>if z=size/\Ax.length<=n/\off+n*z<=cs.length then some (h.set id (.cells (cs.take off++Ax.flatten++cs.drop (off+Ax.length*z))),.int .i64 Ax.length) else none
   |_=>none
  |_=>none
def Xp(h:Ai)(size:Nat)(zero:List Aa):Aa->Option (Ai×Aa)
 | .slnil=>some (h,.bool true)
 | .Dn id off n z=>match h[id]? with
  |some (.cells cs)=>if z=size/\zero.length=size/\off+n*z<=cs.length then some (h.set id (.cells (cs.take off++(List.replicate n zero).flatten++cs.drop (off+n*z))),.bool true) else none
  |_=>none
 |_=>none
def lQ(h:Ai)(size:Nat)(lo hi:Bool)(s:Aa)(as:List Aa):Option (Ai×Aa):=
 match s with
 | .Dn id off n z=>match h[id]? with
  |some (.cells cs)=>if z=size/\hi=true/\off<=cs.length then(DY lo hi ((cs.length-off)/z) as).bind λ(l,r)=>if l<(cs.length-off)/z then some (h,.Dn id (off+l*z) (r-l) z) else none else none
  |_=>none
 |_=>none
def Xq(size:Nat):List Aa->Bool
 |[s,.int _ l,.int _ r,.int _ m]=>match s with
  | .Dn _ _ n z=>z=size&&decide (0<=l)&&decide (l<=r)&&decide (r<=m)&&decide (m<=n)
  | .sl z Ax=>z=size&&decide (0<=l)&&decide (l<=r)&&decide (r<=m)&&decide (m<=Ax.length)
  |_=>false
 |_=>false
def IY(k:Int):List (Aa×Aa)->Nat->Option (Option (Nat×Aa))
 |[],_=>some none
 |(.int .i64 t,v)::es,i=>if k=t then some (some (i,v)) else IY k es (i+1)
 |_,_=>none
def Ur(zero:Aa)(ok:Bool):Option (Nat×Aa)->Aa
 |some (_,v)=>if ok then .tuple [v,.bool true] else v
 |none=>if ok then .tuple [zero,.bool false] else zero
def lR(h:Ai)(zero:Aa)(ok:Bool)(m k:Aa):Option (Ai×Aa):=
 match m,k with
 | .map none,.int .i64 _=>some (h,Ur zero ok none)
 | .map (some id),.int .i64 n=>match h[id]? with
  |some (.map es)=>(IY n es 0).map λr=>(h,Ur zero ok r)
  |_=>none
 |_,_=>none
def Wy(h:Ai)(zero m k:Aa):Option (Ai×Aa):=
 match m,k with
 | .map (some id),.int .i64 n=>match h[id]? with
  |some (.map es)=>(IY n es 0).map λr=>match r with
   |some (i,v)=>(h,.tuple [v,.int .i64 i])
   |none=>(h.set id (.map (es++[(k,zero)])),.tuple [zero,.int .i64 es.length])
  |_=>none
 |_,_=>none
def Sa(k:Ah):List (Aa×Aa)->Nat->Option (Option (Nat×Aa))
 |[],_=>some none
 |(.str t,v)::es,i=>if k=t then some (some (i,v)) else Sa k es (i+1)
 |_,_=>none
def Wz(h:Ai)(zero m k:Aa):Option (Ai×Aa):=
 match m,k with
 | .map (some id),.str n=>match h[id]? with
  |some (.map es)=>(Sa n es 0).map λr=>match r with
   |some (i,v)=>(h,.tuple [v,.int .i64 i])
   |none=>(h.set id (.map (es++[(k,zero)])),.tuple [zero,.int .i64 es.length])
  |_=>none
 |_,_=>none
def S2(h:Ai)(m i v:Aa):Option (Ai×Aa):=
 match m,i with
 | .map (some id),.int .i64 n=>match h[id]? with
  |some (.map es)=>if 0<=n then match es[n.toNat]? with
   |some (k,_)=>some (h.set id (.map (es.set n.toNat (k,v))),.bool true)
   |none=>none
   else none
  |_=>none
 |_,_=>none
def wK(h:Ai)(m k v:Aa):Option (Ai×Aa):=
 match m,k with
 | .map (some id),.int .i64 n=>match h[id]? with
  |some (.map es)=>match IY n es 0 with
   |some none=>some (h.set id (.map (es++[(.int .i64 n,v)])),.bool true)
   |_=>none
  |_=>none
 |_,_=>none
def Rd(h:Ai):List Aa->Option (Ai×Aa)
 |[.slnil,.int .i64 i,.sl 1 [[.int .i64 x]]]=>if i=0 then some (h++[.cells [.int .i64 x]],.Dn h.length 0 1 1) else none
 |[.Dn id 0 n 1,.int .i64 i,.sl 1 [[.int .i64 x]]]=>match h[id]? with
  |some (.cells cs)=>if 0<=i/\i.toNat<=n/\n<=cs.length/\(n+1)*8<=AV then some (h.set id .Ef++[.cells (cs.take i.toNat++[.int .i64 x]++(cs.take n).drop i.toNat)],.Dn h.length 0 (n+1) 1) else none
  |_=>none
 |_=>none
def Eu(o:vg)(h:Ai)(args:List Aa):Option (Ai×Aa):=
 match o with
 | .copy size=>match args with
  |[d,x]=>vh h size d x
  |_=>none
 | .clear size zero=>match args with
  |[s]=>Xp h size zero s
  |_=>none
 | .k_ size lo hi=>match args with
  |s::as=>lQ h size lo hi s as
  |_=>none
 | .qO size=>if Xq size args then some (h,.bool true) else none
 | .aHw t=>match args with
  |[v]=>some (h,.iface t v)
  |_=>none
 | .lf zero ok=>match args with
  |[m,k]=>lR h zero ok m k
  |_=>none
 | .O2 zero=>match args with
  |[m,k]=>Wy h zero m k
  |_=>none
 | .Xk zero=>match args with
  |[m,k]=>Wz h zero m k
  |_=>none
 | .Ld=>match args with
  |[m,i,v]=>S2 h m i v
  |_=>none
 | .Uo=>match args with
  |[m,k,v]=>wK h m k v
  |_=>none
 | .lg=>Rd h args
 | .Xl g=>g h args
def Fe(f:FuncId):FuncId:=if f<=99999 then f else f%100000
def CN:Aa->List Aa->Option (FuncId×List Aa)
 | .func (.func f) first captured,args=>if f<=99999 then some (f,first++args++captured) else none
 |_,_=>none
abbrev Ku:=Gs×List Aa×Ai
def IT.step(fn:FuncId->List Aa->IT)(rec:IT->Ai->Option Ku):IT->Ai->Option Ku
 | .ret x vs,h=>some (x,vs,h)
 | .fail,_=>none
 | .op o args k,h=>match AH o args with
  |some v=>IT.step fn rec (k v) h
  |none=>none
 | .cells n v k,h=>if v.cells.length=n then IT.step fn rec (k v.cells) h else none
 | .A3 c t e,h=>match c with
  | .bool true=>IT.step fn rec t h
  | .bool false=>IT.step fn rec e h
  |_=>none
 | .load n p k,h=>match Bn h n p with
  |some v=>IT.step fn rec (k v) h
  |none=>none
 | .store n p v k,h=>match C9 h n p v with
  |some h'=>IT.step fn rec k h'
  |none=>none
 | .alloc n v k,h=>match Xn h n v with
  |some (h',p)=>IT.step fn rec (k p) h'
  |none=>none
 | .call f args k,h=>match rec (fn f args) h with
  |some (.ret,[r],h')=>IT.step fn rec (k r) h'
  |_=>none
 | .EG g args k,h=>match CN g args with
  |some (f,args)=>match rec (fn f args) h with
   |some (.ret,[r],h')=>IT.step fn rec (k r) h'
   |_=>none
  |none=>none
 | .BH f args k,h=>if args.all Aa.Nx then match rec (fn f args) [] with
   |some (.ret,[r],_)=>if r.Nx then IT.step fn rec (k r) h else none
   |_=>none
  else none
 | .loop key init body k,h=>match IT.step fn rec (body init) h with
  |some (.normal,vs,h')=>rec (.loop key vs body k) h'
  |some (x,vs,h')=>IT.step fn rec (k x vs) h'
  |none=>none
 | .GK _ t k,h=>match IT.step fn rec t h with
  |some (x,vs,h')=>IT.step fn rec (k x vs) h'
  |none=>none
 | .same a b k,h=>if Aa.beq a b then IT.step fn rec k h else none
 | .Og k,h=>IT.step fn rec (k (.map (some h.length))) (h++[.map []])
 | .Ig m key v k,h=>match RN h m key v with
  |some h'=>IT.step fn rec k h'
  |none=>none
 | .MY zero ok m key k,h=>match PV h zero ok m key with
  |some v=>IT.step fn rec (k v) h
  |none=>none
 | .make size bytes zero len cap k,h=>match Xo h size bytes zero len cap with
  |some (h',v)=>IT.step fn rec (k v) h'
  |none=>none
 | .Kf size bytes s x k,h=>match Lf h size bytes s x with
  |some (h',v)=>IT.step fn rec (k v) h'
  |none=>none
 | .Fi s k,h=>match Jm h s with
  |some (h',v)=>IT.step fn rec (k v) h'
  |none=>none
 | .VY v k,h=>match LW h v with
  |some (h',v')=>IT.step fn rec (k v') h'
  |none=>none
 | .IX off p k,h=>match Lg h off p with
  |some h'=>IT.step fn rec k h'
  |none=>none
 | .GL size bytes s x k,h=>match GZ h size bytes s x with
  |some (h',v)=>IT.step fn rec (k v) h'
  |none=>none
 | .GI size bytes s x k,h=>match RO h size bytes s x with
  |some v=>IT.step fn rec (k v) h
  |none=>none
 | .mem o args k,h=>match Eu o h args with
  |some (h',v)=>IT.step fn rec (k v) h'
  |none=>none
 | .wJ f args k,h=>match rec (fn f args) [] with
  |some (.ret,[r],_)=>if r.Nx then IT.step fn rec (k r) h else none
  |_=>none
def IT.run(fn:FuncId->List Aa->IT):Nat->IT->Ai->Option Ku
 |0=>λ_ _=>none
 |n+1=>IT.step fn (IT.run fn n)
end Go.Am
end
section
namespace Go.Am
inductive Sh where
 |val
 |BT
 |box (n:Nat) (BT:List Nat)
 deriving Inhabited
inductive wL where
 |Qh|heap
 deriving DecidableEq,Inhabited
structure Gj where
 P:Program
 aCN:FuncId->Nat->List (Nat×Sh)
 aBy:FuncId->Nat->Option (List (Nat×Sh))
 aBz:FuncId->Nat->Option (List (Nat×Sh))
 kind:FuncId->Nat->wL
 KC:FuncId->Bool
 aBA:FuncId->Bool
 lj:FuncId->Nat->Bool
 aHx:FuncId->Nat->Bool
 vi:FuncId->Bool
 vj:FuncId->List (Nat×Nat)
 HB:Nat->Option (List Aa)
 aCO:FuncId->Option (List Aa->IT)
 alt:FuncId->FuncId->FuncId
 Mm:FuncId->Bool
inductive EW where
 |pure (ws:List (Nat×EM))
 |op (p:ZG) (args:List Aa) (dst:Option Nat) (BT:Bool) (DT:Option (Nat×Aa))
 |box (n:Nat) (v:Aa) (dst:Nat)
 |closure (fn:Fn) (first captured:List Aa) (froze:List (Nat×List Aa)) (dst:Nat)
 |N3 (s off n:Nat) (v:Aa) (BT:Bool) (DT:Option (Nat×Aa)) (ver:Nat) (cells:List Aa) (owned:List Nat)
 |load (n:Option Nat) (p:Aa) (dst:Option Nat)
 |store (n:Nat) (p v:Aa)
 |alloc (n:Nat) (v:Aa) (dst:Option Nat)
 |call (f:FuncId) (args:List Aa) (dst:Option Nat)
 |EG (g:Aa) (args:List Aa) (dst:Option Nat)
 |BH (f:FuncId) (args:List Aa) (dst:Option Nat)
 |Og (dst:Option Nat)
 |Ig (m k v:Aa)
 |MY (zero:Aa) (ok:Bool) (m k:Aa) (dst:Option Nat)
 |make (size bytes:Nat) (zero:List Aa) (len cap:Aa) (dst:Option Nat)
 |Kf (size bytes:Nat) (s x:Aa) (dst:Option Nat) (DT:Option (Nat×Aa))
 |GL (size bytes:Nat) (s x:Aa) (dst:Option Nat)
 |GI (size bytes:Nat) (s x:Aa) (dst:Option Nat) (DT:Option (Nat×Aa))
 |Fi (s:Aa) (dst:Option Nat)
 |ZM (v:Aa) (dst:Option Nat)
 |mem (o:vg) (args:List Aa) (dst:Option Nat)
def B0(P:Program)(t:TypeId):Option Nat:=(P.info? t).map (·.size)
def KD(P:Program)(t:TypeId):Option Nat:=(P.info? t).map (·.bytes)
def FE(P:Program)(t:TypeId):Option (Option Nat):=
 match P.underlying t with
 |some (.struct _)|some (.array _ _)=>(B0 P t).map some
 |some _=>some none
 |none=>none
def Hq(P:Program)(t:TypeId):Option Aa:=((P.info? t).bind (·.zero)).bind LM
def Xr(rec:TypeId->Option (List FK)):List Field->Nat->Option (List FK)
 |[],_=>some []
 |f::fs,off=>if f.name≠ "_"/\f.offset=off then match rec f.type with
   |some ks=>(Xr rec fs (off+ks.length)).map (ks++·)
   |none=>none
  else none
def Qi(P:Program):Nat->TypeId->Option (List FK)
 |0,_=>none
 |d+1,t=>
  let one (k:FK):Option (List FK):=if B0 P t=some 1 then some [k] else none
  match P.underlying t with
  |some .bool=>one .b
  |some (.int _)=>one .i
  |some .string=>one .s
  |some (.struct fs)=>match Xr (Qi P d) fs.toList 0 with
   |some ks=>if B0 P t=some ks.length/\P.stoodInHeld t=false then some ks else none
   |none=>none
  |_=>none
def IZ(P:Program)(s:TypeId)(f:Nat):Option (Nat×Option Nat):=
 match P.underlying s with
 |some (.struct fs)=>match fs[f]? with
  |some fd=>match B0 P fd.type,FE P fd.type with
   |some (_+1),some sh=>some (fd.offset,sh)
   |_,_=>none
  |none=>none
 |_=>none
def Eo(C:Gj)(U:BR):Operand->Option EM
 | .tmp t=>some (U.at t)
 | .const (.bool b)=>some (.P9 b)
 | .const (.slice none 0 0)=>some (.BT .slnil)
 | .const v=>(LM v).map .val
 | .global g=>(C.HB g).map λcs=> .val (.B9 cs)
 | .func f=>some (.val (.func (.func f) [] []))
def Fa(C:Gj)(U:BR)(x:Operand):Option Aa:=(Eo C U x).bind EM.HH
def Bs(C:Gj)(U:BR):List Operand->Option (List Aa)
 |[]=>some []
 |x::xs=>match Fa C U x,Bs C U xs with
  |some v,some vs=>some (v::vs)
  |_,_=>none
def vn(ops:List Oper)(d:Nat):Bool:=
 ops.any λo=>match o.op with
  | .call c=>(match c.callee with| .builtin .append=>true|_=>false)&&(match(c.args[0]?:Option Operand) with|some (.tmp t)=>t==d|_=>false)
  |_=>false
def I0:EM->Option EM
 | .val v=>some (.val v)
 | .P9 b=>some (.P9 b)
 | .BT v=>some (.val v)
 | .Fu s o=>some (.Fu s o)
 |_=>none
def S3(x:Operand)(v:Aa):List (Nat×EM):=
 match x with
 | .tmp s=>[(s,.val v)]
 |_=>[]
def Lh(C:Gj)(U:BR)(x:Operand)(d:Nat)(take:Bool):Option EW:=
 match x,Eo C U x with
 | .tmp s,some (.box _ _ _)=>some (.pure [(d,.Fu s 0)])
 | .const _,some sl=>some (.pure [(d,sl)])
 |x,some (.BT v)=>if take then some (.pure (S3 x v++[(d,.BT v)])) else(I0 (.BT v)).map λs=> .pure [(d,s)]
 |_,some s=>(I0 s).map λs=> .pure [(d,s)]
 |_,none=>none
def Xs(cs:List Aa):List Nat:=(List.range cs.length).filter λi=>match cs.getD i .nilIface with| .slnil=>true|_=>false
def N4(U:BR)(ds:List Nat):Bool:=U.all λs=>match s with| .Fu s _=> !ds.contains s|_=>true
def BR.drop(U:BR)(ds:List Nat):BR:=match ds with|[]=>U|ds=>U.map λs=>match s with| .Fu s o=>if ds.contains s then .undef else .Fu s o|s=>s
def Vi(C:Gj)(fid:FuncId)(t:TypeId)(v:Aa)(d:Nat):Option EW:=
 match B0 C.P t with
 |none=>none
 |some n=>if n=0 then none else match C.kind fid d with
  | .Qh=>some (.box n v d)
  | .heap=>some (.alloc n v (some d))
inductive aCP where
 |Qh (s off ver:Nat) (cells:List Aa) (BT:List Nat)
 |ptr (p:Aa)
def Gt(C:Gj)(U:BR)(x:Operand):Option aCP:=
 match x,Eo C U x with
 | .tmp s,some (.box ver cs ow)=>some (.Qh s 0 ver cs ow)
 |_,some (.Fu s o)=>match U.at s with
  | .box ver cs ow=>some (.Qh s o ver cs ow)
  |_=>none
 |_,some s=>s.HH.map .ptr
 |_,none=>none
def Dr(U:BR):Operand->Option (Nat×Aa)
 | .tmp s=>match U.at s with
  | .BT v=>some (s,v)
  |_=>none
 |_=>none
def LX(C:Gj)(U:BR)(x:Operand):Bool:=match Eo C U x with|some (.BT _)=>true|_=>false
def Ms(C:Gj)(U:BR)(t:TypeId)(x:Operand)(d:Nat)(take:Bool):Option EW:=
 match FE C.P t,Gt C U x with
 |some n,some (.ptr p)=>some (.load n p (some d))
 |some none,some (.Qh s o ver cs ow)=>
  if o<cs.length then
   let v:=cs.getD o .nilIface
   if ow.contains o&& !(ow.erase o).contains o&&take then some (.pure [(s,.box (ver+1) cs (ow.erase o)),(d,.BT v)])
   else some (.pure [(d,.val v)])
  else none
 |some (some n),some (.Qh _ o _ cs _)=>if o+n<=cs.length then some (.pure [(d,.val (.agg ((cs.drop o).take n)))]) else none
 |_,_=>none
def J0(C:Gj)(U:BR)(t:TypeId)(x y:Operand):Option EW:=
 match B0 C.P t,FE C.P t,Gt C U x,Fa C U y with
 |some (n+1),_,some (.ptr p),some v=>some (.store (n+1) p v)
 |some (n+1),some sh,some (.Qh s o ver cs ow),some v=>
  if o+(n+1)<=cs.length then
   let BT:=sh.isNone&&LX C U y
   some (.N3 s o (n+1) v BT (if BT then Dr U y else none) ver cs ow)
  else none
 |_,_,_,_=>none
def Us(P:Program)(t:TypeId)(neg:Bool)(u:TypeDesc):Option ZG:=
 match u with
 | .bool=>some (.beq neg)
 | .struct _=>if P.eqGuardType P.depth t=false then(Qi P 20 t).map (.geq neg) else none
 | .pointer e=>if(B0 P e).getD 0=0 then none else some (.Wx neg)
 | .slice _=>some (.Gf neg .sl)
 | .func _ _ _=>some (.Gf neg .fn)
 | .map _ _=>some (.Gf neg .mp)
 |_=>none
def Re(P:Program)(op:BinOp)(t:TypeId):Option ZG:=
 match P.underlying t with
 |some (.int _)=>some (.int op)
 |some .string=>some (.str op)
 |some u=>match op with
  | .eql=>Us P t false u
  | .neq=>Us P t true u
  |_=>none
 |none=>none
def Ut(p:ZG)(dst:Option Nat):Option (List Aa)->Option EW
 |some args=>some (.op p args dst false none)
 |none=>none
def KE(P:Program)(t:TypeId):List (Nat×Operand)->Option (List (Nat×Nat))
 |[]=>some []
 |(i,_)::rest=>match P.underlying t with
  |some (.struct fs)=>match fs[i]? with
   |some f=>match B0 P f.type,KE P t rest with
    |some n,some r=>some ((f.offset,n)::r)
    |_,_=>none
   |none=>none
  |some (.array len e)=>if i<len then match B0 P e,KE P t rest with
    |some n,some r=>some ((i*n,n)::r)
    |_,_=>none
   else none
  |_=>none
def MZ(P:Program)(t:TypeId):Bool:=
 match P.info? t with
 |some i=>match i.zero with
  |some z=>z.cells.size==i.size
  |none=>false
 |none=>false
def WA(P:Program)(t:TypeId):Bool:=
 match P.underlying t with
 |some (.struct fs)=>fs.toList.all λf=>(B0 P f.type).isSome
 |some (.array _ e)=>(B0 P e).isSome
 |_=>false
def Uu(o:vg)(dst:Option Nat):Option (List Aa)->Option EW
 |some args=>some (.mem o args dst)
 |none=>none
def Sb(C:Gj)(fid:FuncId)(U:BR)(c:Call)(dst:Option Nat):Option EW:=
 match c.callee with
 | .builtin .len=>match c.argTypes[0]? with
  |some t=>match C.P.underlying t with
   |some .string=>Ut (.len true) dst (Bs C U c.args.toList)
   |some (.slice _)=>Ut (.len false) dst (Bs C U c.args.toList)
   |_=>none
  |none=>none
 | .builtin .append=>match c.argTypes[0]?,c.argTypes[1]?,c.args.toList with
  |some t,some t',[s,x]=>match C.P.underlying t,C.P.underlying t' with
   |some (.slice e),some (.slice _)|some (.slice e),some .string=>match B0 C.P e,KD C.P e with
    |some (n+1),some (b+1)=>if MZ C.P e then match Bs C U [s,x] with
      |some [v,u]=>if LX C U s then
        (if(dst.map (C.lj fid)).getD false then some (.Kf (n+1) (b+1) v u dst (Dr U s))
        else if(dst.map (C.aHx fid)).getD false then some (.GI (n+1) (b+1) v u dst (Dr U s))
        else some (.op (.append (n+1) (b+1)) [v,u] dst true (Dr U s)))
       else if(dst.map (C.lj fid)).getD false then some (.GL (n+1) (b+1) v u dst) else none
      |_=>none
     else none
    |_,_=>none
   |_,_=>none
  |_,_,_=>none
 | .builtin .copy=>match c.argTypes[0]?,c.argTypes[1]?,c.args.toList with
  |some t,some t',[s,x]=>match C.P.underlying t,C.P.underlying t' with
   |some (.slice e),some (.slice _)|some (.slice e),some .string=>match B0 C.P e with
    |some (n+1)=>Uu (.copy (n+1)) dst (Bs C U [s,x])
    |_=>none
   |_,_=>none
  |_,_,_=>none
 | .builtin .clear=>match c.argTypes[0]?,c.args.toList with
  |some t,[s]=>match C.P.underlying t with
   |some (.slice e)=>match B0 C.P e,Hq C.P e with
    |some (n+1),some z=>Uu (.clear (n+1) z.cells) dst (Bs C U [s])
    |_,_=>none
   |_=>none
  |_,_=>none
 | .builtin .max=>if c.args.size=2 then Ut (.Mr true) dst (Bs C U c.args.toList) else none
 | .builtin .min=>if c.args.size=2 then Ut (.Mr false) dst (Bs C U c.args.toList) else none
 | .value (.func f)=>if C.Mm f then(match c.args.toList with
  |[s,i,v]=>if LX C U v then Uu .lg dst (Bs C U [s,i,v]) else none
  |_=>none) else if Fe (C.alt fid f)=f then(Bs C U c.args.toList).map λargs=>if C.aBA (C.alt fid f) then .BH (C.alt fid f) args dst else .call (C.alt fid f) args dst else none
 | .value g=>match Fa C U g,Bs C U c.args.toList with
  |some g,some args=>some (.EG g args dst)
  |_,_=>none
 |_=>none
def Xt(C:Gj)(src dst:TypeId):Option (Option ZG):=
 match C.P.underlying src,C.P.underlying dst with
 |some (.int _),some (.int k)=>some (some (.conv k))
 |some (.int _),some .string=>some (some .i2s)
 |some .string,some .string=>some none
 |some (.slice e),some .string=>match C.P.underlying e with
  |some (.int .u8)=>some (some .ZM)
  |_=>none
 |some .string,some (.slice e)=>match C.P.underlying e,B0 C.P e,KD C.P e with
  |some (.int .u8),some 1,some 1=>some (some .s2b)
  |_,_,_=>none
 |_,_=>none
def HI(C:Gj)(U:BR):List Operand->Option (List Aa×List (Nat×List Aa))
 |[]=>some ([],[])
 |x::xs=>match HI C U xs with
  |none=>none
  |some (vs,fz)=>match x,Eo C U x with
   | .tmp s,some (.box _ cs _)=>if(fz.map (·.1)).contains s then none else some (.B9 cs::vs,(s,cs)::fz)
   |_,some sl=>match sl.HH with
    |some v=>some (v::vs,fz)
    |none=>none
   |_,none=>none
def Gu(C:Gj)(fid:FuncId)(ops:List Oper)(U:BR)(o:Oper):Option EW:=
 match o.op with
 | .move x=>match o.dst with
  |some d=>Lh C U x d (vn ops d)
  |none=>none
 | .assign x=>match o.dst with
  |some d=>Lh C U x d true
  |none=>none
 | .pick c a b=>match Eo C U c,o.dst with
  |some (.P9 true),some d=>Lh C U a d false
  |some (.P9 false),some d=>Lh C U b d false
  |_,dst=>Ut .pick dst (Bs C U [c,a,b])
 | .alloc t=>match o.dst,Hq C.P t with
  |some d,some z=>match C.kind fid d with
   | .Qh=>if B0 C.P t=some z.cells.length/\z.cells≠[] then some (.pure [(d,.box 0 z.cells (Xs z.cells))]) else none
   |_=>Vi C fid t z d
  |_,_=>none
 | .box t x=>match o.dst,Fa C U x with
  |some d,some v=>Vi C fid t v d
  |_,_=>none
 | .build t parts=>match Hq C.P t,KE C.P t parts.toList with
  |some z,some ps=>if WA C.P t then Ut (.C7 z.cells ps) o.dst (Bs C U (parts.toList.map (·.2))) else none
  |_,_=>none
 | .buildSlice t len parts=>match C.P.underlying t with
  |some (.slice e)=>match B0 C.P e with
   |some (n+1)=>if parts.toList.map (·.1)=List.range len/\MZ C.P e=true then if len=0/\(o.dst.map (C.lj fid)).getD false=true then some (.op (.GX (n+1)) [] o.dst true none) else(Bs C U (parts.toList.map (·.2))).map λargs=> .op (.CC (n+1)) args o.dst true none else none
   |_=>none
  |_=>none
 | .load t x=>match o.dst with
  |some d=>Ms C U t x d (vn ops d)
  |none=>none
 | .store t x y=>match o.dst with
  |none=>J0 C U t x y
  |some _=>none
 | .nilCheck x=>match x,Eo C U x,o.dst with
  | .tmp s,some (.box _ _ _),some d=>some (.pure [(d,.Fu s 0)])
  |_,some (.Fu s k),some d=>some (.pure [(d,.Fu s k)])
  |x,_,dst=>Ut .MW dst (Bs C U [x])
 | .binOp op t x y _=>match Re C.P op t with
  |some p=>Ut p o.dst (Bs C U [x,y])
  |none=>none
 | .unOp op _ x=>Ut (.un op) o.dst (Bs C U [x])
 | .convert src dst x=>match Xt C src dst with
  |some (some .ZM)=>(Fa C U x).map λv=> .ZM v o.dst
  |some (some .s2b)=>if(o.dst.map (C.lj fid)).getD false then(Fa C U x).map λv=> .Fi v o.dst else Ut .s2b o.dst (Bs C U [x])
  |some (some p)=>Ut p o.dst (Bs C U [x])
  |_=>none
 | .makeFunc fn first captured=>match o.dst,Bs C U first.toList,HI C U captured.toList with
  |some d,some a,some (b,fz)=>some (.closure fn a b fz d)
  |_,_,_=>none
 | .makeMap _ none=>some (.Og o.dst)
 | .makeSlice t l c=>match C.P.underlying t with
  |some (.slice e)=>match B0 C.P e,KD C.P e,Hq C.P e,Fa C U l,Fa C U c with
   |some (n+1),some (b+1),some z,some l,some c=>some (.make (n+1) (b+1) z.cells l c o.dst)
   |_,_,_,_,_=>none
  |_=>none
 | .insert t m k v| .mapUpdate t m k v=>match C.P.underlying t with
  |some (.map kt _)=>match o.dst,C.P.underlying kt,Bs C U [m,k,v] with
   |none,some .string,some [m,k,v]=>some (.Ig m k v)
   |none,some (.int .i64),some [m,k,v]=>some (.mem .Uo [m,k,v] none)
   |_,_,_=>none
  |_=>none
 | .lookup t m k ok=>match C.P.underlying t with
  |some (.map kt e)=>match C.P.underlying kt,Hq C.P e,Bs C U [m,k] with
   |some .string,some z,some [m,k]=>some (.MY z ok m k o.dst)
   |some (.int .i64),some z,some [m,k]=>some (.mem (.lf z ok) [m,k] o.dst)
   |_,_,_=>none
  |_=>none
 | .slice t x (some lo) (some hi) (some mx)=>match C.P.underlying t with
  |some (.slice e)=>match B0 C.P e with
   |some (n+1)=>Uu (.qO (n+1)) o.dst (Bs C U [x,lo,hi,mx])
   |_=>none
  |_=>none
 | .makeInterface t x=>match C.P.underlying t with
  |some (.interface _)=>none
  |some _=>Uu (.aHw t) o.dst (Bs C U [x])
  |none=>none
 | .mapEntry t m k=>match C.P.underlying t with
  |some (.map kt e)=>match C.P.underlying kt,Hq C.P e with
   |some (.int .i64),some z=>Uu (.O2 z) o.dst (Bs C U [m,k])
   |some .string,some z=>Uu (.Xk z) o.dst (Bs C U [m,k])
   |_,_=>none
  |_=>none
 | .entryStore _ m s v=>match o.dst with
  |none=>Uu .Ld none (Bs C U [m,s,v])
  |some _=>none
 | .slice t x lo hi none=>match C.P.underlying t with
  |some .string=>Ut (.Rb 0 true lo.isSome hi.isSome) o.dst (Bs C U (x::(lo.toList++hi.toList)))
  |some (.slice e)=>match B0 C.P e with
   |some (n+1)=>if(o.dst.map (C.lj fid)).getD false then Uu (.k_ (n+1) lo.isSome hi.isSome) o.dst (Bs C U (x::(lo.toList++hi.toList)))
    else Ut (.Rb (n+1) false lo.isSome hi.isSome) o.dst (Bs C U (x::(lo.toList++hi.toList)))
   |_=>none
  |_=>none
 | .fieldAddr t x f=>match IZ C.P t f,o.dst with
  |some (off,_),some d=>match x,Eo C U x with
   | .tmp s,some (.box _ _ _)=>some (.pure [(d,.Fu s off)])
   |_,some (.Fu s k)=>some (.pure [(d,.Fu s (k+off))])
   |x,_=>Ut (.Gr off) (some d) (Bs C U [x])
  |_,_=>none
 | .field t x f=>match IZ C.P t f with
  |some (off,sh)=>Ut (.part off sh) o.dst (Bs C U [x])
  |none=>none
 | .indexAddr t x i=>match C.P.underlying t with
  |some (.slice e)=>match B0 C.P e with
   |some (n+1)=>Ut (.GY (n+1)) o.dst (Bs C U [x,i])
   |_=>none
  |some (.array len e)=>match B0 C.P e with
   |some (n+1)=>if len<=1 then none else Ut (.Vh len (n+1)) o.dst (Bs C U [x,i])
   |_=>none
  |_=>none
 | .index t x i=>match C.P.underlying t with
  |some .string=>Ut .VX o.dst (Bs C U [x,i])
  |some (.array len e)=>match B0 C.P e,FE C.P e with
   |some (n+1),some sh=>Ut (.aCL len (n+1) sh) o.dst (Bs C U [x,i])
   |_,_=>none
  |_=>none
 | .extract x i=>Ut (.ext i) o.dst (Bs C U [x])
 | .call c=>Sb C fid U c o.dst
 |_=>none
def BR.EX(U:BR):List (Nat×EM)->BR
 |[]=>U
 |(s,x)::ws=>BR.EX (U.set s x) ws
def BR.put(U:BR)(dst:Option Nat)(x:EM):BR:=
 match dst with
 |some d=>U.set d x
 |none=>U
def BR.DT(U:BR):Option (Nat×Aa)->BR
 |some (s,v)=>U.set s (.val v)
 |none=>U
def Xu(n:Nat)(cs:List Aa):List Aa:=(List.range n).map λi=>cs.getD i .nilIface
def Xv(cs:List Aa)(off n:Nat)(vs:List Aa):List Aa:=cs.take off++vs++cs.drop (off+n)
def S4(owned:List Nat)(off n:Nat)(BT:Bool):List Nat:=
 let rest:=owned.filter λo=> !(off<=o&&o<off+n)
 if BT then off::rest else rest
def EW.M0(C:Gj)(U:BR)(K:BR->IT):EW->IT
 | .pure ws=>K (U.EX ws)
 | .op p args dst BT e=> .op p args λv=>K ((U.DT e).put dst (if BT then .BT v else .val v))
 | .box n v d=> .cells n v λcs=>K (U.set d (.box 0 (Xu n cs) []))
 | .closure fn a b fz d=>K ((U.EX (fz.map λ(s,cs)=>(s,.val (.B9 cs)))).set d (.val (.func fn a b)))
 | .N3 s off n v BT e ver cells owned=> .cells n v λvs=>K ((U.DT e).set s (.box (ver+1) (Xv cells off n (Xu n vs)) (S4 owned off n BT)))
 | .load n p dst=> .load n p λv=>K (U.put dst (.val v))
 | .store n p v=> .store n p v (K U)
 | .alloc n v dst=> .alloc n v λp=>K (U.put dst (.val p))
 | .call f args dst=> .call f args λr=>K (U.put dst (if C.KC f then .BT r else .val r))
 | .EG g args dst=> .EG g args λr=>K (U.put dst (.val r))
 | .BH f args dst=> .BH f args λr=>K (U.put dst (.val r))
 | .Og dst=> .Og λm=>K (U.put dst (.val m))
 | .Ig m k v=> .Ig m k v (K U)
 | .MY z ok m k dst=> .MY z ok m k λv=>K (U.put dst (.val v))
 | .make z b zero l c dst=> .make z b zero l c λv=>K (U.put dst (.val v))
 | .Kf z b s x dst e=> .Kf z b s x λv=>K ((U.DT e).put dst (.val v))
 | .GL z b s x dst=> .GL z b s x λv=>K (U.put dst (.val v))
 | .GI z b s x dst e=> .GI z b s x λv=>K ((U.DT e).put dst (.BT v))
 | .Fi s dst=> .Fi s λv=>K (U.put dst (.val v))
 | .ZM v dst=> .VY v λv=> .op .ZM [v] λu=>K (U.put dst (.val u))
 | .mem o args dst=> .mem o args λv=>K (U.put dst (if o.eD then .undef else .val v))
def EW.news:EW->List Nat
 | .pure ws=>ws.filterMap λ(s,x)=>match x with| .box 0 _ _=>some s|_=>none
 | .box _ _ d=>[d]
 | .closure _ _ _ fz _=>fz.map (·.1)
 |_=>[]
inductive aHz where
 |Oi (run:Bool)
 |ask (qP:Nat) (v:Aa) (want:Bool)
 |bad
def Jo(ops:List Oper)(U:BR)(o:Oper):aHz:=
 match o.guard with
 |none=> .Oi true
 |some (j,want)=>match(ops[j]?).bind (·.dst) with
  |some s=>match U.at s with
   | .P9 b=> .Oi (b==want)
   | .val v=> .ask s v want
   | .skip=> .Oi false
   |_=> .bad
  |none=> .bad
def vo(C:Gj)(fid:FuncId)(ops:List Oper)(U:BR)(o:Oper)(K:BR->IT):IT:=
 match Gu C fid ops U o with
 |some r=>r.M0 C (U.drop r.news) K
 |none=> .fail
def Uv(C:Gj)(fid:FuncId)(ops:List Oper)(U:BR)(o:Oper)(K:BR->IT):IT:=
 match Jo ops U o with
 | .Oi true=>vo C fid ops U o K
 | .Oi false=>K (U.put o.dst .skip)
 | .ask s v want=>
  let t:=if want then vo C fid ops (U.set s (.P9 true)) o K else K (BR.put (U.set s (.P9 true)) o.dst .skip)
  let e:=if want then K (BR.put (U.set s (.P9 false)) o.dst .skip) else vo C fid ops (U.set s (.P9 false)) o K
  .A3 v t e
 | .bad=> .fail
def wM(C:Gj)(fid:FuncId)(ops:List Oper):List Oper->BR->(BR->IT)->IT
 |[],U,K=>K U
 |o::rest,U,K=>Uv C fid ops U o λU=>wM C fid ops rest U K
end Go.Am
end
section
namespace Go.Am
def Oper.VZ(o:Oper):List Nat:=o.after.toList.filterMap λe=>if Region.binds .any e then some e.on else none
def bit(i:Nat):Nat:=2^i
def LY(D7:List Nat):List Oper->List Nat
 |[]=>D7
 |o::rest=>LY (D7++[(Oper.VZ o).foldl (λm e=>m|||bit e|||D7.getD e 0) 0]) rest
def Xw(ops:List Oper):List Nat:=LY [] ops
def EH(an:List Nat)(i j:Nat):Bool:=(an.getD j 0).testBit i
def aBB(o:Oper):Bool:=
 match o.op with
 | .call c=>(match c.callee with| .builtin .copy| .builtin .clear=>true| .builtin _=>false|_=>true)
 | .store _ _ _| .insert _ _ _ _| .mapUpdate _ _ _ _| .makeMap _ _| .makeSlice _ _ _| .mapEntry _ _ _| .entryStore _ _ _ _=>true
 |_=>false
def Xx(all:List Oper)(D7:List Nat):List Oper->List Nat
 |[]=>D7
 |o::rest=>Xx all (D7++[(Oper.VZ o).foldl (λm e=>Nat.max m (D7.getD e 0+(match all[e]? with|some x=>if aBB x then 1 else 0|none=>0))) 0]) rest
def Ņ(ops:List Oper):List Nat:=
 let st:=Xx ops [] ops
 let idx:=List.range ops.length
 let SX:=λi=>match ops[i]? with|some o=>aBB o|none=>false
 (List.range (ops.length+1)).flatMap λs=>(idx.filter λi=>st.getD i 0==s&& !SX i)++(idx.filter λi=>st.getD i 0==s&&SX i)
structure FP where
 rs:List Nat
 wf:List Nat
 hl:Bool
 SX:Bool
 news:List Nat
 lr:List Nat
 J5:Bool
 deriving Inhabited
def Li(xs:List Operand):List Nat:=xs.filterMap λ| .tmp t=>some t|_=>none
def O4(C:Gj)(U:BR)(x:Operand):Option Nat:=
 match Gt C U x with
 |some (.Qh s _ _ _ _)=>some s
 |_=>none
def Iu(C:Gj)(U:BR)(o:Oper):List Nat:=
 match o.op with
 | .load _ x=>(O4 C U x).toList
 | .store _ x _=>(O4 C U x).toList
 | .makeFunc _ _ captured=>Li captured.toList
 |_=>[]
def EW.wf:EW->List Nat
 | .pure ws=>ws.map (·.1)
 | .op _ _ dst _ a=>dst.toList++(a.map (·.1)).toList
 | .box _ _ d=>[d]
 | .closure _ _ _ fz d=>d::fz.map (·.1)
 | .N3 s _ _ _ _ a _ _ _=>s::(a.map (·.1)).toList
 | .load _ _ dst| .alloc _ _ dst| .call _ _ dst| .EG _ _ dst| .BH _ _ dst| .Og dst| .MY _ _ _ _ dst| .make _ _ _ _ _ dst| .Fi _ dst| .ZM _ dst| .GL _ _ _ _ dst| .mem _ _ dst=>dst.toList
 | .Kf _ _ _ _ dst a| .GI _ _ _ _ dst a=>dst.toList++(a.map (·.1)).toList
 | .store _ _ _| .Ig _ _ _=>[]
def EW.hl:EW->Bool
 | .load _ _ _| .MY _ _ _ _ _=>true
 |_=>false
def EW.SX:EW->Bool
 | .store _ _ _| .alloc _ _ _| .call _ _ _| .EG _ _ _| .Og _| .Ig _ _ _| .make _ _ _ _ _ _| .Kf _ _ _ _ _ _| .Fi _ _| .ZM _ _| .GL _ _ _ _ _| .GI _ _ _ _ _ _| .mem _ _ _=>true
 |_=>false
def FQ(ops:List Oper)(o:Oper):List Nat:=
 match o.guard with
 |none=>[]
 |some (j,_)=>((ops[j]?).bind (·.dst)).toList
def WB(xs:List EM):List Nat:=xs.filterMap λ| .Fu t _=>some t|_=>none
def EW.wN:EW->List Nat
 | .pure ws=>WB (ws.map (·.2))
 |_=>[]
def EW.J5(U:BR)(r:EW):Bool:=
 N4 U r.news&&match r with
  | .load _ _ (some d)=>decide (d<U.length)
  | .load _ _ none| .MY _ _ _ _ _| .closure _ _ _ (_::_) _=>false
  |_=>true
def V0(C:Gj)(ops:List Oper)(U:BR)(o:Oper)(r:Option EW):FP:=
 match r with
 |none=>{rs:=FQ ops o,wf:=o.dst.toList,hl:=false,SX:=false,news:=[],lr:=WB (o.dst.toList.map U.at),J5:=true}
 |some r=>{rs:=FQ ops o++Li o.op.operands.toList++Iu C U o,wf:=r.wf++o.dst.toList,hl:=r.hl,SX:=r.SX,news:=r.news,lr:=WB ((r.wf++o.dst.toList).map U.at)++r.wN,J5:=r.J5 U}
def Vj(a b:List Nat):Bool:=a.any λx=>b.contains x
def FP.apart(x y:FP):Bool:= !Vj x.wf (y.rs++y.wf)&& !Vj y.wf x.rs&& !Vj x.lr y.news&& !Vj y.lr x.news
def Sc(x y:FP):Bool:=x.J5&&y.J5&&x.apart y&& !(x.SX&&y.SX)&& !(x.SX&&y.hl)
def Xy(n:Nat)(an:List Nat)(a:List (Nat×FP)):Bool:=
 go a&&(List.range n).all (λi=>(a.map (·.1)).contains i)
where
 go:List (Nat×FP)->Bool
  |[]=>true
  |(i,f)::rest=>rest.all (λ(j,g)=>i != j&& !EH an j i&&(EH an i j||Sc f g))&&go rest
structure La where
 idx:Nat
 n:Option Nat
 p:Aa
 v:Aa
def S5(an:List Nat)(i:Nat):List La->IT->IT
 |[],t=>t
 |f::fs,t=>if EH an f.idx i then S5 an i fs t else .load f.n f.p λv=> .same f.v v (S5 an i fs t)
def NG(i:Nat)(r:EW)(U:BR)(fl:List La):List La:=
 match r with
 | .load n p (some d)=>match U.at d with
  | .val v=>{idx:=i,n,p,v}::fl
  |_=>fl
 |_=>fl
def S6(ops:List Oper)(i:Nat):Bool:=ops.any λo=>match o.guard with|some (j,_)=>j==i|none=>false
def wO(d:Option Nat)(U:BR)(K:BR->IT):IT:=
 match d with
 |none=>K U
 |some d=>match U.at d with
  | .val v=> .A3 v (K (U.set d (.P9 true))) (K (U.set d (.P9 false)))
  |_=>K U
def Sd(C:Gj)(fid:FuncId)(ops:List Oper)(an:List Nat):List Nat->List (Nat×FP)->List La->BR->(BR->IT)->IT
 |[],a,_,U,K=>if Xy ops.length an a.reverse then K U else .fail
 |i::rest,a,fl,U,K=>
  match ops[i]? with
  |none=> .fail
  |some o=>match Jo ops U o with
   | .Oi true=>match Gu C fid ops U o with
    |none=> .fail
    |some r=>r.M0 C (U.drop r.news) λc=>
     let next:=wO (if S6 ops i then o.dst else none) c λb=>Sd C fid ops an rest ((i,V0 C ops U o (some r))::a) (NG i r c fl) b K
     if r.SX then S5 an i fl next else next
   | .Oi false=>Sd C fid ops an rest ((i,V0 C ops U o none)::a) fl (U.put o.dst .skip) K
   |_=> .fail
def FH(ops:List Oper)(o:Oper):List Nat:=
 o.dst.toList++match o.op with
  | .move (.tmp s)=>(match o.dst with|some d=>if vn ops d then[s] else[]|none=>[])
  | .assign (.tmp s)=>[s]
  | .store _ _ (.tmp s)=>[s]
  | .call c=>(match c.callee with| .builtin .append=>Li c.args.toList|_=>[])
  | .makeFunc _ _ captured=>Li captured.toList
  |_=>[]
def Da:Code->List Nat
 | .region _ ops _=>ops.toList.flatMap (FH ops.toList)
 | .seq a b=>Da a++Da b
 | .cond _ a b=>Da a++Da b
 | .block _ b=>Da b
 | .loop b=>Da b
 | .scope b=>Da b
 |_=>[]
def Cn:Code->List Nat
 | .region _ ops _=>ops.toList.flatMap (FQ ops.toList)
 | .seq a b=>Cn a++Cn b
 | .cond (.tmp s) a b=>s::(Cn a++Cn b)
 | .cond _ a b=>Cn a++Cn b
 | .block _ b=>Cn b
 | .loop b=>Cn b
 | .scope b=>Cn b
 |_=>[]
def BR.clear(U:BR):List Nat->BR
 |[]=>U
 |s::ss=>BR.clear (U.set s .undef) ss
def Ha:Code->Option Nat
 | .region id _ _=>some id
 | .seq a b=>(Ha a).orElse λ_=>Ha b
 | .cond _ a b=>(Ha a).orElse λ_=>Ha b
 | .block _ b| .loop b| .scope b=>Ha b
 |_=>none
def Xz(U:BR):List (Nat×Sh)->Option (List Aa)
 |[]=>some []
 |(s,sh)::l=>
  let v:=match sh,U.at s with
   | .val,x=>x.HH
   | .BT,.BT v=>some v
   | .box n ow,.box _ cs O0=>if cs.length=n/\ow.all (O0.contains ·) then some (.agg cs) else none
   |_,_=>none
  match v,Xz U l with
  |some v,some vs=>some (v::vs)
  |_,_=>none
def bB:EM->Nat
 | .box ver _ _=>ver
 |_=>0
def J6(vs:List Aa):List (Nat×Sh)->Nat->BR->(BR->IT)->IT
 |[],_,U,K=>K U
 |(s,.val)::l,i,U,K=>J6 vs l (i+1) (U.set s (.val (vs.getD i .nilIface))) K
 |(s,.BT)::l,i,U,K=>J6 vs l (i+1) (U.set s (.BT (vs.getD i .nilIface))) K
 |(s,.box n ow)::l,i,U,K=> .cells n (vs.getD i .nilIface) λcs=>J6 vs l (i+1) (U.set s (.box (bB (U.at s)+1) (Xu n cs) ow)) K
def qQ(U:BR)(a:BR)(l:List (Nat×Sh)):Bool:=
 (List.range U.length).all λs=>match U.at s with
  | .box ver _ _=>(l.map (·.1)).contains s||(match a.at s with| .box Gv _ _=>Gv==ver|_=>false)
  | .Fu _ _=>(l.map (·.1)).contains s||(match a.at s with| .Fu _ _=>true|_=>false)
  |_=>true
def Ds(b:BR)(l:List (Nat×Sh))(x:Gs)(a:BR):IT:=
 if qQ b a l then match Xz a l with
  |some vs=> .ret x vs
  |none=> .fail
 else .fail
def vp(l:List (Nat×Sh))(ws:List Nat)(U:BR):Bool:=l.all λ(s,_)=>ws.contains s||(match U.at s with| .box _ _ _=>true|_=>false)
def eF(ops:List Oper):Bool:=ops.zipIdx.all λ(o,i)=>(Oper.VZ o).all λe=>decide (e<i)
def S7(C:Gj)(fid:FuncId)(ops:List Oper)(draw:Bool)(U:BR)(K:BR->IT):IT:=
 if draw then(if eF ops then Sd C fid ops (Xw ops) (Ņ ops) [] [] U K else .fail) else wM C fid ops ops U K
def eH(key:Nat)(U:BR)(ws:List Nat)(l:List (Nat×Sh))(t:(Gs->BR->IT)->IT)(K:Gs->BR->IT):IT:=
 let b:=U.clear ws
 if vp l ws U then .GK key (t λx a=>Ds b l x a) λx vs=>J6 vs l 0 b λa=>K x a else .fail
def aBC(K:Gs->BR->IT):Gs->BR->IT
 | .normal,_=> .fail
 | .exit i,U=>K (.exit i) U
 | .ret,U=>K .ret U
def Gw(C:Gj)(fid:FuncId):Code->BR->(Gs->BR->IT)->IT
 | .skip,U,K=>K .normal U
 | .region id ops draw,U,K=>match C.aBz fid id with
  |none=>S7 C fid ops.toList draw U (K .normal)
  |some l=>eH (200000+id) U (ops.toList.flatMap (FH ops.toList)++ops.toList.flatMap (FQ ops.toList)) l (λK=>S7 C fid ops.toList draw U (K .normal)) K
 | .seq a b,U,K=>Gw C fid a U λx d=>match x with
  | .normal=>Gw C fid b d K
  | .exit i=>K (.exit i) d
  | .ret=>K .ret d
 | .cond c a b,U,K=>match c,Eo C U c with
  |_,some (.P9 true)=>Gw C fid a U K
  |_,some (.P9 false)=>Gw C fid b U K
  | .tmp s,some (.val v)=>match C.aBy fid s with
   |none=> .A3 v (Gw C fid a (U.set s (.P9 true)) K) (Gw C fid b (U.set s (.P9 false)) K)
   |some l=>eH (100000+s) U (s::(Da a++Da b++Cn a++Cn b)) l (λK=> .A3 v (Gw C fid a (U.set s (.P9 true)) K) (Gw C fid b (U.set s (.P9 false)) K)) K
  |_,_=> .fail
 | .block id b,U,K=>Gw C fid b U λx d=>match x with
  | .normal=>K .normal d
  | .exit i=>if i=id then K .normal d else K (.exit i) d
  | .ret=>K .ret d
 | .loop b,U,K=>
  let l:=C.aCN fid ((Ha b).getD 0)
  let ws:=Da b++Cn b
  let f:=U.clear ws
  if vp l ws U then match Xz U l with
   |none=> .fail
   |some init=> .loop ((Ha b).getD 0) init (λvs=>J6 vs l 0 f λe=>Gw C fid b e λx d=>Ds f l x d) λx vs=>J6 vs l 0 f λd=>aBC K x d
  else .fail
 | .exit id,U,K=>K (.exit id) U
 | .ret,U,K=>K .ret U
 | .scope b,U,K=>Gw C fid b U K
 | .label _,U,K=>K .normal U
 |_,_,_=> .fail
def GS(C:Gj)(U:BR):List ResultVar->List Aa->(List Aa->IT)->IT
 |[],D7,K=>K D7.reverse
 | .tmp t::rs,D7,K=>match(U.at t).HH with
  |some v=>GS C U rs (v::D7) K
  |none=> .fail
 | .cell a t::rs,D7,K=>match FE C.P t,Gt C U (.tmp a) with
  |some none,some (.Qh _ o _ cs _)=>if o<cs.length then GS C U rs (cs.getD o .nilIface::D7) K else .fail
  |some (some n),some (.Qh _ o _ cs _)=>if o+n<=cs.length then GS C U rs (.agg ((cs.drop o).take n)::D7) K else .fail
  |some n,some (.ptr p)=> .load n p λv=>GS C U rs (v::D7) K
  |_,_=> .fail
def Rf(U:BR):List ResultVar->Bool
 |[.tmp t]=>match U.at t with| .BT _=>true|_=>false
 |_=>false
def wQ(C:Gj)(U:BR):List (Nat×Nat)->IT->IT
 |[],t=>t
 |(s,off)::l,t=>match(U.at s).HH with
  |some p=> .IX off p (wQ C U l t)
  |none=> .fail
def Qj:List Aa->List Aa->(List Aa->IT)->IT
 |[],D7,K=>K D7.reverse
 |v::vs,D7,K=> .VY v λv=>Qj vs (v::D7) K
def Vk:List Aa->IT
 |[v]=> .ret .ret [v]
 |vs=> .ret .ret [.tuple vs]
def lS(C:Gj)(fid:FuncId)(fn:Func)(U:BR):IT:=
 if C.KC fid&& !Rf U fn.results.toList then .fail
 else wQ C U (C.vj fid) (GS C U fn.results.toList [] λvs=>if C.vi fid then Qj vs [] Vk else Vk vs)
def vq(C:Gj)(fid:FuncId)(fn:Func)(args:List Aa):IT:=
 match fn.body with
 |none=> .fail
 |some c=>Gw C fid c (args.map .val++List.replicate (fn.ntmps-args.length) .undef) λx U=>match x with
  | .normal=>lS C fid fn U
  | .exit _=> .fail
  | .ret=>lS C fid fn U
def aHA(C:Gj)(fid:FuncId)(args:List Aa):IT:=
 match C.P.funcs[Fe fid]? with
 |some fn=>if fn.name== "runtime.NumGoroutine" then .fail else vq C fid fn args
 |none=> .fail
def Cd(C:Gj)(fid:FuncId)(args:List Aa):IT:=
 match C.aCO fid with
 |some p=>p args
 |none=>aHA C fid args
abbrev g(l:List Aa)(i:Nat):Aa:=l.getD i .nilIface
abbrev I(n:Int):Aa:= .int .i64 n
abbrev S(s:Ah):Aa:= .str s
abbrev tt:Aa:= .bool true
abbrev ff:Aa:= .bool false
abbrev Gj.run(C:Gj):Nat->IT->Ai->Option Ku:=IT.run (Cd C)
end Go.Am
end
end
section
namespace Go.Am
def IT.Kg{fn:FuncId->List Aa->IT}{rec aHB:IT->Ai->Option Ku}(hr:∀t h r,rec t h=some r->aHB t h=some r):
  ∀(t:IT) (h:Ai) (r:Ku),IT.step fn rec t h=some r->IT.step fn aHB t h=some r:=by
 intro t;induction t with
 |ret x vs=>intro h r d;simpa[IT.step] using d
 |fail=>intro h r d;simp[IT.step] at d
 |op o args k ih=>
  intro h r d;simp only[IT.step] at d⊢;split at d;.exact ih _ _ _ d
  .cases d
 |cells n v k ih=>
  intro h r d;simp only[IT.step] at d⊢;split at d;.rename_i hc;rw[Af hc];exact ih _ _ _ d
  .cases d
 |A3 c t e i q=>
  intro h r d;simp only[IT.step] at d⊢;split at d;.exact i _ _ d
  .exact q _ _ d
  .cases d
 |load n p k ih=>
  intro h r d;simp only[IT.step] at d⊢;split at d;.exact ih _ _ _ d
  .cases d
 |store n p v k ih=>
  intro h r d;simp only[IT.step] at d⊢;split at d;.exact ih _ _ d
  .cases d
 |alloc n v k ih=>
  intro h r d;simp only[IT.step] at d⊢;split at d;.exact ih _ _ _ d
  .cases d
 |call f args k ih=>
  intro h r d;simp only[IT.step] at d⊢;split at d;.rename_i h1;rw[hr _ _ _ h1];exact ih _ _ _ d
  .cases d
 |EG g args k ih=>
  intro h r d;simp only[IT.step] at d⊢;split at d
  .rename_i f a ht;split at d;.rename_i h1;simp only[hr _ _ _ h1];exact ih _ _ _ d
   .cases d
  .cases d
 |BH f args k ih=>
  intro h r d;simp only[IT.step] at d⊢;split at d
  .rename_i Jj;rw[Af Jj];split at d
   .rename_i h1;rw[hr _ _ _ h1];split at d;.rename_i ub;simp only[ub,BN];exact ih _ _ _ d
    .cases d
   .cases d
  .cases d
 |loop key init body k l j=>
  intro h r d;simp only[IT.step] at d⊢;split at d;.rename_i h1;rw[l _ _ _ h1];exact hr _ _ _ d
  .rename_i x vs h1 hne hx;rw[l _ _ _ hx];cases x<;>first|exact j _ _ _ _ d|exact absurd rfl hne
  .cases d
 |GK key t k i j=>
  intro h r d;simp only[IT.step] at d⊢;split at d;.rename_i h1;rw[i _ _ h1];exact j _ _ _ _ d
  .cases d
 |same a b k ih=>
  intro h r d;simp only[IT.step] at d⊢;split at d;.rename_i hc;rw[Af hc];exact ih _ _ d
  .cases d
 |Og k ih=>intro h r d;simp only[IT.step] at d⊢;exact ih _ _ _ d
 |Ig m key v k ih=>
  intro h r d;simp only[IT.step] at d⊢;split at d;.exact ih _ _ d
  .cases d
 |MY z ok m key k ih=>
  intro h r d;simp only[IT.step] at d⊢;split at d;.exact ih _ _ _ d
  .cases d
 |make size bytes zero len cap k ih=>
  intro h r d;simp only[IT.step] at d⊢;split at d;.exact ih _ _ _ d
  .cases d
 |Kf size bytes s x k ih=>
  intro h r d;simp only[IT.step] at d⊢;split at d;.exact ih _ _ _ d
  .cases d
 |Fi s k ih=>
  intro h r d;simp only[IT.step] at d⊢;split at d;.exact ih _ _ _ d
  .cases d
 |VY v k ih=>
  intro h r d;simp only[IT.step] at d⊢;split at d;.exact ih _ _ _ d
  .cases d
 |IX off p k ih=>
  intro h r d;simp only[IT.step] at d⊢;split at d;.exact ih _ _ d
  .cases d
 |GL size bytes s x k ih=>
  intro h r d;simp only[IT.step] at d⊢;split at d;.exact ih _ _ _ d
  .cases d
 |GI size bytes s x k ih=>
  intro h r d;simp only[IT.step] at d⊢;split at d;.exact ih _ _ _ d
  .cases d
 |mem o args k ih=>
  intro h r d;simp only[IT.step] at d⊢;split at d;.exact ih _ _ _ d
  .cases d
 |wJ f args k ih=>
  intro h r d;simp only[IT.step] at d⊢;split at d
  .rename_i h1;rw[hr _ _ _ h1];split at d;.rename_i ub;simp only[ub,BN];exact ih _ _ _ d
   .cases d
  .cases d
def IT.vr{fn:FuncId->List Aa->IT}:∀(n:Nat) (t:IT) (h:Ai) (r:Ku),IT.run fn n t h=some r->IT.run fn (n+1) t h=some r:=by
 intro n;induction n with
 |zero=>intro t h r a;simp[IT.run] at a
 |succ n ih=>intro t h r a;exact IT.Kg (λt h r=>ih t h r) t h r a
def IT.Iy{fn:FuncId->List Aa->IT}{n m:Nat}(hnm:n<=m){t:IT}{h:Ai}{r:Ku}(a:IT.run fn n t h=some r):IT.run fn m t h=some r:=by
 induction hnm with
 |refl=>exact a
 |step _ ih=>exact IT.vr _ _ _ _ ih
abbrev Lj:=Gs->List Aa->Ai->Prop
def W(C:Gj)(t:IT)(Q:Lj)(h:Ai):Prop:=∃n x vs h',C.run n t h=some (x,vs,h')/\Q x vs h'
section
variable{C:Gj}{Q:Lj}{h:Ai}
def W.mono{t:IT}{Q':Lj}(hw:W C t Q h)(hq:∀x vs h',Q x vs h'->Q' x vs h'):W C t Q' h:=
 let⟨n,x,vs,h',hr,q⟩:=hw;⟨n,x,vs,h',hr,hq _ _ _ q⟩
def aBD{x:Gs}{vs:List Aa}(hq:Q x vs h):W C (.ret x vs) Q h:=⟨1,x,vs,h,rfl,hq⟩
def C0{t:IT}(a:∃n x vs h',IT.step (Cd C) (C.run n) t h=some (x,vs,h')/\Q x vs h'):W C t Q h:=
 let⟨n,x,vs,h',hr,q⟩:=a;⟨n+1,x,vs,h',hr,q⟩
def W.succ{t:IT}(a:W C t Q h):∃n x vs h',IT.step (Cd C) (C.run n) t h=some (x,vs,h')/\Q x vs h':=by
 obtain⟨n,x,vs,h',hr,q⟩:=a;cases n with
 |zero=>simp[Gj.run,IT.run] at hr
 |succ n=>exact⟨n,x,vs,h',hr,q⟩
def aHC{o:ZG}{args:List Aa}{k:Aa->IT}{v:Aa}(hv:AH o args=some v)(hw:W C (k v) Q h):W C (.op o args k) Q h:=by obtain⟨n,x,vs,h',hr,q⟩:=hw.succ;exact C0 ⟨n,x,vs,h',by simp only[IT.step,hv];exact hr,q⟩
def wR{n:Nat}{v:Aa}{k:List Aa->IT}(hv:v.cells.length=n)(hw:W C (k v.cells) Q h):W C (.cells n v k) Q h:=by obtain⟨m,x,vs,h',hr,q⟩:=hw.succ;exact C0 ⟨m,x,vs,h',by simp only[IT.step,hv,BN];exact hr,q⟩
def wS{b:Bool}{t e:IT}(ht:b=true->W C t Q h)(he:b=false->W C e Q h):W C (.A3 (.bool b) t e) Q h:=by
 cases b with
 |true=>obtain⟨m,x,vs,h',hr,q⟩:=(ht rfl).succ;exact C0 ⟨m,x,vs,h',by simp only[IT.step];exact hr,q⟩
 |false=>obtain⟨m,x,vs,h',hr,q⟩:=(he rfl).succ;exact C0 ⟨m,x,vs,h',by simp only[IT.step];exact hr,q⟩
def vt{n:Option Nat}{p v:Aa}{k:Aa->IT}(hv:Bn h n p=some v)(hw:W C (k v) Q h):W C (.load n p k) Q h:=by obtain⟨m,x,vs,h',hr,q⟩:=hw.succ;exact C0 ⟨m,x,vs,h',by simp only[IT.step,hv];exact hr,q⟩
def wT{n:Nat}{p v:Aa}{k:IT}{h1:Ai}(hv:C9 h n p v=some h1)(hw:W C k Q h1):W C (.store n p v k) Q h:=by obtain⟨m,x,vs,h',hr,q⟩:=hw.succ;exact C0 ⟨m,x,vs,h',by simp only[IT.step,hv];exact hr,q⟩
def wU{n:Nat}{v:Aa}{k:Aa->IT}(hv:v.cells.length=n)(hw:W C (k (.ptr (some (h.length,0)))) Q (h++[.cells v.cells])):W C (.alloc n v k) Q h:=by obtain⟨m,x,vs,h',hr,q⟩:=hw.succ;exact C0 ⟨m,x,vs,h',by simp only[IT.step,Xn,hv,BN];exact hr,q⟩
def vu{a b:Aa}{k:IT}(hv:Aa.beq a b=true)(hw:W C k Q h):W C (.same a b k) Q h:=by obtain⟨m,x,vs,h',hr,q⟩:=hw.succ;exact C0 ⟨m,x,vs,h',by simp only[IT.step,hv,BN];exact hr,q⟩
def vw{k:Aa->IT}(hw:W C (k (.map (some h.length))) Q (h++[.map []])):W C (.Og k) Q h:=by obtain⟨m,x,vs,h',hr,q⟩:=hw.succ;exact C0 ⟨m,x,vs,h',by simp only[IT.step];exact hr,q⟩
def vy{m key v:Aa}{k:IT}{h1:Ai}(hv:RN h m key v=some h1)(hw:W C k Q h1):W C (.Ig m key v k) Q h:=by obtain⟨n,x,vs,h',hr,q⟩:=hw.succ;exact C0 ⟨n,x,vs,h',by simp only[IT.step,hv];exact hr,q⟩
def vz{z:Aa}{ok:Bool}{m key v:Aa}{k:Aa->IT}(hv:PV h z ok m key=some v)(hw:W C (k v) Q h):W C (.MY z ok m key k) Q h:=by obtain⟨n,x,vs,h',hr,q⟩:=hw.succ;exact C0 ⟨n,x,vs,h',by simp only[IT.step,hv];exact hr,q⟩
def v_{size bytes:Nat}{zero:List Aa}{len cap v:Aa}{k:Aa->IT}{h1:Ai}(hv:Xo h size bytes zero len cap=some (h1,v))(hw:W C (k v) Q h1):W C (.make size bytes zero len cap k) Q h:=by obtain⟨n,x,vs,h',hr,q⟩:=hw.succ;exact C0 ⟨n,x,vs,h',by simp only[IT.step,hv];exact hr,q⟩
def wV{size bytes:Nat}{s x v:Aa}{k:Aa->IT}{h1:Ai}(hv:Lf h size bytes s x=some (h1,v))(hw:W C (k v) Q h1):W C (.Kf size bytes s x k) Q h:=by obtain⟨n,x,vs,h',hr,q⟩:=hw.succ;exact C0 ⟨n,x,vs,h',by simp only[IT.step,hv];exact hr,q⟩
def XA{s v:Aa}{k:Aa->IT}{h1:Ai}(hv:Jm h s=some (h1,v))(hw:W C (k v) Q h1):W C (.Fi s k) Q h:=by obtain⟨n,x,vs,h',hr,q⟩:=hw.succ;exact C0 ⟨n,x,vs,h',by simp only[IT.step,hv];exact hr,q⟩
def aBE{u v:Aa}{k:Aa->IT}{h1:Ai}(hv:LW h u=some (h1,v))(hw:W C (k v) Q h1):W C (.VY u k) Q h:=by obtain⟨n,x,vs,h',hr,q⟩:=hw.succ;exact C0 ⟨n,x,vs,h',by simp only[IT.step,hv];exact hr,q⟩
def wW{off:Nat}{p:Aa}{k:IT}{h1:Ai}(hv:Lg h off p=some h1)(hw:W C k Q h1):W C (.IX off p k) Q h:=by obtain⟨n,x,vs,h',hr,q⟩:=hw.succ;exact C0 ⟨n,x,vs,h',by simp only[IT.step,hv];exact hr,q⟩
def wb{size bytes:Nat}{s x v:Aa}{k:Aa->IT}{h1:Ai}(hv:GZ h size bytes s x=some (h1,v))(hw:W C (k v) Q h1):W C (.GL size bytes s x k) Q h:=by obtain⟨n,x,vs,h',hr,q⟩:=hw.succ;exact C0 ⟨n,x,vs,h',by simp only[IT.step,hv];exact hr,q⟩
def bC{size bytes:Nat}{s x v:Aa}{k:Aa->IT}(hv:RO h size bytes s x=some v)(hw:W C (k v) Q h):W C (.GI size bytes s x k) Q h:=by obtain⟨n,x,vs,h',hr,q⟩:=hw.succ;exact C0 ⟨n,x,vs,h',by simp only[IT.step,hv];exact hr,q⟩
def aBF{o:vg}{args:List Aa}{v:Aa}{k:Aa->IT}{h1:Ai}(hv:Eu o h args=some (h1,v))(hw:W C (k v) Q h1):W C (.mem o args k) Q h:=by obtain⟨n,x,vs,h',hr,q⟩:=hw.succ;exact C0 ⟨n,x,vs,h',by simp only[IT.step,hv];exact hr,q⟩
def Ev(C:Gj)(f:FuncId)(args:List Aa)(h:Ai)(R:Aa->Ai->Prop):Prop:=
 W C (Cd C f args) (λx vs h'=>x= .ret/\∃r,vs=[r]/\R r h') h
def Ev.mono{f:FuncId}{args:List Aa}{R R':Aa->Ai->Prop}(hw:Ev C f args h R)(hr:∀r h',R r h'->R' r h'):Ev C f args h R':=
 W.mono hw λ_ _ _ ⟨hx,r,hv,hR⟩=>⟨hx,r,hv,hr _ _ hR⟩
def wc{f:FuncId}{args:List Aa}{k:Aa->IT}(hc:Ev C f args h λr h1=>W C (k r) Q h1):W C (.call f args k) Q h:=by obtain⟨n,x,vs,h1,hr,hx,r,hv,m,x',Ih,h',HY,q⟩:=hc;subst hx;subst hv;refine C0 ⟨max n m,x',Ih,h',?_,q⟩;have a:=IT.Iy (Ie n m) hr;have h2:=IT.Iy (Bv (HD n m) (FV _)) HY;simp only[IT.step];simp only[Gj.run] at*;rw[a];exact h2
def ņ{f:FuncId}{args:List Aa}{k:Aa->IT}(ha:args.all Aa.Nx=true)(hc:Ev C f args [] λr _=>r.Nx=true/\W C (k r) Q h):W C (.BH f args k) Q h:=by obtain⟨n,x,vs,h1,hr,hx,r,hv,Jj,m,x',Ih,h',HY,q⟩:=hc;subst hx;subst hv;refine C0 ⟨max n m,x',Ih,h',?_,q⟩;have a:=IT.Iy (Ie n m) hr;have h2:=IT.Iy (Bv (HD n m) (FV _)) HY;simp only[IT.step,ha,BN];simp only[Gj.run] at*;rw[a];simp only[Jj,BN];exact h2
def we{key:Nat}{t:IT}{k:Gs->List Aa->IT}(hw:W C t (λx vs h1=>W C (k x vs) Q h1) h):W C (.GK key t k) Q h:=by obtain⟨n,x,vs,h1,hr,a⟩:=hw.succ;obtain⟨m,x',Ih,h',HY,q⟩:=a.succ;refine C0 ⟨max n m,x',Ih,h',?_,q⟩;have c:=IT.Kg (λt h r=>IT.Iy (fn:=Cd C) (Ie n m)) _ _ _ hr;have b:=IT.Kg (λt h r=>IT.Iy (fn:=Cd C) (HD n m)) _ _ _ HY;simp only[IT.step];simp only[Gj.run] at*;rw[c];exact b
end
end Go.Am
end
