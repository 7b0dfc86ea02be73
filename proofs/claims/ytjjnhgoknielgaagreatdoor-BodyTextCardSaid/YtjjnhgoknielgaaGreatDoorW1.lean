/- Lemmas -/
import GoSem.Step
set_option linter.all false
def Aa:=@if_neg
def Ad:=@Nat.le_refl
def Ae:=@if_pos
def Aj:=@List.getElem?_eq_some_iff
def Ak:=@decide_eq_true
def Al:=@List.getElem?_append_left
def An:=@List.length_append
def Ao:=@List.mem_append
def Ap:=@decide_eq_false
def Aq:=@List.getElem?_set_ne
def Av:=@List.getElem?_eq_getElem
def Aw:=@List.length_map
def Ax:=@List.length_take
def AA:=@List.drop_eq_getElem_cons
def AF:=@List.mem_cons
def AG:=@List.getElem_mem
def AI:=@List.getElem?_set_self
def AJ:=@List.length_cons
def AK:=@false_implies
def AL:=@List.getD_eq_getElem?_getD
def AN:=@not_true_eq_false
def AO:=@true_implies
def AP:=@not_false_eq_true
def AQ:=@List.length_singleton
def AU:=@Array.getElem?_eq_some_iff
def AV:=@List.map_cons
def AX:=@List.drop_of_length_le
def AZ:=@List.length_nil
def A4:=@List.length_drop
def A5:=@List.mem_map
def A6:=@List.mem_of_mem_drop
def A7:=@List.append_assoc
def A8:=@List.append_nil
def A9:=@List.mem_of_mem_take
def Bb:=@List.take_succ_eq_append_getElem
def Be:=@List.filter_append
def Bf:=@List.take_of_length_le
def Bg:=@Bool.and_eq_true
def Bk:=@List.take_append_of_le_length
def Bl:=@List.take_length
def Bm:=@Nat.lt_or_ge
def Bn:=@Nat.zero_le
def Bq:=@List.nil_append
def Br:=@List.take_append_drop
def Bu:=@List.getElem?_append_right
def Bv:=@List.mem_singleton
def Bw:=@Nat.le_trans
def BB:=@Nat.add_zero
def BD:=@List.cons_append
def BE:=@List.mem_filter
def BG:=@Nat.zero_add
def BH:=@Int.toNat_natCast
def BI:=@eq_true
def BJ:=@List.mem_append_right
def BK:=@Nat.add_mul
def BN:=@if_true
def BO:=@Option.some.injEq
def BP:=@Nat.min_eq_left
def BR:=@List.Sublist.refl
def BW:=@Option.map_some
def BY:=@List.nodup_append
def B3:=@List.map_append
def B4:=@List.mem_append_left
def B5:=@Bool.false_eq_true
def B6:=@congrArg
def B8:=@List.size_toArray
def Ca:=@List.nodup_cons
def Cc:=@List.set_eq_take_append_cons_drop
def Ce:=@List.set_append_right
def Ch:=@List.take_sublist
def Ci:=@List.length_set
def Cq:=@Array.length_toList
def Cs:=@List.mem_filterMap
def Cu:=@List.cons.injEq
def Cx:=@Option.bind_some
def CA:=@List.getElem?_take
def CB:=@List.length_pos_iff
def CC:=@of_decide_eq_true
def CE:=@List.getElem?_drop
def CF:=@decide_eq_true_eq
def CG:=@eq_self
def CJ:=@List.mem_of_getElem?
def CK:=@List.take_take
def CM:=@List.map_nil
def CP:=@ne_eq
def CQ:=@List.getElem?_take_of_lt
def CS:=@List.flatten_cons
def CU:=@List.getElem?_of_mem
def CW:=@List.filter_cons_of_pos
def CX:=@List.filter_cons_of_neg
def CY:=@Array.getElem?_eq_getElem
def CZ:=@List.mem_take_iff_getElem
def C3:=@Ne.symm
def C5:=@List.eq_nil_of_length_eq_zero
def C9:=@Nat.succ_pos
def Dt:=@List.getElem?_map
def DC:=@List.mem_or_eq_of_mem_set
def DG:=@List.reverse_reverse
def DI:=@Nat.lt_irrefl
def DK:=@if_false
def Eg:=@List.all_eq_true
def Ei:=@List.getElem_map
def Ej:=@List.not_mem_nil
def En:=@List.getElem?_eq_none
def Ez:=@List.drop_drop
def EA:=@Nat.mul_le_mul_right
def EB:=@List.dropWhile_cons_of_neg
def EN:=@and_true
def ET:=@List.reverse_append
def EW:=@Nat.one_mul
def EX:=@List.reverse_cons
def EY:=@decide_true
def EZ:=@Decidable.not_not
def E1:=@List.filterMap_append
def Fb:=@List.take_left
def Ff:=@Option.some.inj
def Fg:=@decide_false
def Fh:=@Nat.sub_self
def Fx:=@Option.getD_some
def Fy:=@decide_eq_decide
def Fz:=@List.length_eq_zero_iff
def FA:=@List.drop_length
def FX:=@List.dropWhile_cons_of_pos
def F6:=@Nat.le_succ
def F7:=@Nat.zero_lt_one
def Gr:=@Nat.eq_zero_or_pos
def GV:=@true_and
def Hb:=@List.getElem_drop
def Hv:=@Array.toList_append
def Hw:=@List.filter_eq_self
def Hy:=@List.countP_eq_zero
def HI:=@Array.getD_eq_getD_getElem?
def HJ:=@List.reverse_singleton
def HM:=@Nat.mul_one
def HN:=@List.map_take
def HP:=@Nat.le_max_right
def HQ:=@List.filter_cons
def Ia:=@Array.ext'
def Ic:=@List.length_replicate
def Ie:=@List.singleton_append
def Ir:=@List.extract_eq_take_drop
def Iu:=@Nat.le_max_left
def Iv:=@List.find?_cons
def IF:=@List.flatMap_cons
def IG:=@bne_self_eq_false
def IH:=@List.getElem_take
def I7:=@Int.toNat_of_nonneg
def I8:=@List.filterMap_cons
def Ju:=@Array.eq_empty_of_size_eq_zero
def Jv:=@List.drop_append
def Jw:=@Nat.le_mul_of_pos_right
def Jy:=@List.getElem?_cons_zero
def JV:=@Nat.lt_of_lt_of_le
def JW:=@List.map_set
def JX:=@List.getElem_cons_succ
def JY:=@List.countP_append
def Kb:=@Bool.or_eq_true
def Kc:=@List.take_left'
def Kg:=@Bool.false_or
def KD:=@Array.size_append
def K8:=@List.drop_zero
def K9:=@Array.replicate_succ
def La:=@Array.replicate_zero
def Lb:=@Int.le_refl
def Lc:=@Bool.or_eq_false_iff
def LN:=@List.take_succ_cons
def LO:=@List.toList_toArray
def LP:=@List.replicate_succ
def LQ:=@List.append_toArray
def LR:=@List.length_reverse
def LS:=@List.findIdx?_eq_some_iff_findIdx_eq
def LU:=@List.getElem_of_mem
def Mt:=@Prod.mk.injEq
def Mu:=@List.map_drop
def Mv:=@or_false
def My:=@List.drop_left'
def Mz:=@Bool.eq_iff_iff
def MK:=@List.find?_eq_none
def ML:=@Nat.add_sub_cancel
def MQ:=@Int.eq_ofNat_of_zero_le
def NA:=@Nat.le_of_eq
def NB:=@Nat.zero_mul
def NC:=@List.push_toArray
def ND:=@List.set_set
def NF:=@List.getElem_cons_zero
def NG:=@List.filter_congr
def NR:=@List.takeWhile_append_dropWhile
def Ob:=@Array.getElem?_modify
def Oc:=@List.set_getElem_self
def Od:=@Nat.eq_of_beq_eq_true
def Oe:=@List.length_filter_le
def Ou:=@Array.toList_map
def Ov:=@List.any_eq_true
def Ow:=@List.getElem_inj
def Pb:=@Array.toList_extract
def Pc:=@List.mem_cons_of_mem
def Pd:=@List.drop_append_of_le_length
def P5:=@not_or
def Qj:=@List.flatten_append
def Qn:=@Nat.add_comm
def Qo:=@Nat.ne_of_lt
def Qp:=@Bool.true_or
def Rj:=@List.take_zero
def Rk:=@Array.ext_getElem?
def Rl:=@Bool.not_false
def Rm:=@Int.fdiv_eq_ediv_of_nonneg
def Rn:=@List.drop_left
def RW:=@Option.filter_eq_some_iff
def RX:=@List.mem_of_find?_eq_some
def RY:=@List.getLast?_eq_getElem?
def RZ:=@Decidable.byContradiction
def So:=@List.ext_getElem?
def S7:=@Nat.add_assoc
def S8:=@Bool.or_false
def S9:=@Bool.bne_true
def Ta:=@List.getElem_append_left
def Tc:=@List.any_cons
def Uu:=@List.getElem?_cons_succ
def Uv:=@List.reverse_nil
def Uw:=@Nat.lt_succ_self
def Ux:=@Option.bind_eq_some_iff
def Uy:=@Nat.add_sub_cancel_left
def Uz:=@List.map_reverse
def UA:=@List.mem_reverse
def Vs:=@List.sublist_cons_self
def Vt:=@Nat.le_of_lt
def Vu:=@Int.not_lt
def Wf:=@List.find?_some
def WM:=@List.dropLast_eq_take
def aD:=@false_and
def bW:=@List.take_set_of_le
def bX:=@Array.getElem?_push
def bY:=@List.map_congr_left
def bZ:=@List.getD_cons_zero
def cA:=@List.mem_map_of_mem
def fN:=@List.all_cons
def mO:=@List.set_cons_zero
def rY:=@and_self
def rZ:=@dif_pos
def sB:=@List.find?_append
def sC:=@List.any_nil
def sM:=@Array.getElem?_setIfInBounds_ne
def yC:=@List.zipIdx_cons
def yD:=@List.take_append
def yE:=@List.mem_flatMap
def yF:=@Option.getD_none
def xb:=@List.foldl_cons
def yc:=@eq_comm
def Ŭ:=@beq_iff_eq
def ŭ:=@List.nodup_nil
def ż:=@List.getElem_append_right
def Ž:=@List.append_eq_append_iff
def aCt:=@List.take_add
def aCu:=@List.eq_of_mem_replicate
def aCv:=@List.drop_nil
def aCw:=@List.take_nil
def aCx:=@Int.lt_irrefl
def aH8:=@List.length_eq_one_iff
def aH9:=@Iff.rfl
def aIa:=@Option.map_eq_some_iff
def aIb:=@List.append_eq_nil_iff
def aIc:=@List.dropWhile_sublist
def aII:=@List.contains_iff_mem
def aIJ:=@Array.getElem?_toList
def aIK:=@List.dropLast_sublist
def aMa:=@List.getElem?_append
def aMb:=@List.range_eq_range'
def aMc:=@List.pairwise_append
def aMd:=@List.set_append_left
def aMe:=@List.mem_of_getLast?
def aNa:=@Nat.add_sub_cancel'
def aNb:=@List.drop_set_of_lt
def aNc:=@Array.toList_zipIdx
def aNd:=@List.getD_cons_succ
def aNe:=@List.drop_take_self
def aRx:=@List.zip_cons_cons
def aRy:=@Array.foldl_toList
def aRz:=@List.pairwise_cons
def aRA:=@Option.isSome_some
def aRB:=@List.findIdx?_cons
def aRC:=@Option.toList_some
def aRD:=@List.map_singleton
def aRE:=@decide_eq_true_iff
def aRF:=@List.filter_filter
def aS7:=@Bool.not_eq_true'
def aS8:=@List.getElem?_set
def aS9:=@List.pairwise_map
def aTb:=@List.any_eq_false
def aTc:=@List.drop_sublist
def aTd:=@List.find?_isSome
def aTe:=@List.getLast?_nil
def aTf:=@Nat.lt_trichotomy
abbrev aXJ:List UInt8:=[97,116,116,114,105,98,117,116,101,78,97,109,101,32,97,116,116,114,105,98,117,116,101,84,121,112,101,32,98,97,115,101,70,114,101,113,117,101,110,99,121,32,98,97,115,101,80,114,111,102,105,108,101,32,99,97,108,99,77,111,100,101,32,99,108,105,112,80,97,116,104,85,110,105,116,115,32,100,105,102,102,117,115,101,67,111,110,115,116,97,110,116,32,101,100,103,101,77,111,100,101,32,102,105,108,116,101,114,85,110,105,116,115,32,103,108,121,112,104,82,101,102,32,103,114,97,100,105,101,110,116,84,114,97,110,115,102,111,114,109,32,103,114,97,100,105,101,110,116,85,110,105,116,115,32,107,101,114,110,101,108,77,97,116,114,105,120,32,107,101,114,110,101,108,85,110,105,116,76,101,110,103,116,104,32,107,101,121,80,111,105,110,116,115,32,107,101,121,83,112,108,105,110,101,115,32,107,101,121,84,105,109,101,115,32,108,101,110,103,116,104,65,100,106,117,115,116,32,108,105,109,105,116,105,110,103,67,111,110,101,65,110,103,108,101,32,109,97,114,107,101,114,72,101,105,103,104,116,32,109,97,114,107,101,114,85,110,105,116,115,32,109,97,114,107,101,114,87,105,100,116,104,32,109,97,115,107,67,111,110,116,101,110,116,85,110,105,116,115,32,109,97,115,107,85,110,105,116,115,32,110,117,109,79,99,116,97,118,101,115,32,112,97,116,104,76,101,110,103,116,104,32,112,97,116,116,101,114,110,67,111,110,116,101,110,116,85,110,105,116,115,32,112,97,116,116,101,114,110,84,114,97,110,115,102,111,114,109,32,112,97,116,116,101,114,110,85,110,105,116,115,32,112,111,105,110,116,115,65,116,88,32,112,111,105,110,116,115,65,116,89,32,112,111,105,110,116,115,65,116,90,32,112,114,101,115,101,114,118,101,65,108,112,104,97,32,112,114,101,115,101,114,118,101,65,115,112,101,99,116,82,97,116,105,111,32,112,114,105,109,105,116,105,118,101,85,110,105,116,115,32,114,101,102,88,32,114,101,102,89,32,114,101,112,101,97,116,67,111,117,110,116,32,114,101,112,101,97,116,68,117,114,32,114,101,113,117,105,114,101,100,69,120,116,101,110,115,105,111,110,115,32,114,101,113,117,105,114,101,100,70,101,97,116,117,114,101,115,32,115,112,101,99,117,108,97,114,67,111,110,115,116,97,110,116,32,115,112,101,99,117,108,97,114,69,120,112,111,110,101,110,116,32,115,112,114,101,97,100,77,101,116,104,111,100,32,115,116,97,114,116,79,102,102,115,101,116,32,115,116,100,68,101,118,105,97,116,105,111,110,32,115,116,105,116,99,104,84,105,108,101,115,32,115,117,114,102,97,99,101,83,99,97,108,101,32,115,121,115,116,101,109,76,97,110,103,117,97,103,101,32,116,97,98,108,101,86,97,108,117,101,115,32,116,97,114,103,101,116,88,32,116,97,114,103,101,116,89,32,116,101,120,116,76,101,110,103,116,104,32,118,105,101,119,66,111,120,32,118,105,101,119,84,97,114,103,101,116,32,120,67,104,97,110,110,101,108,83,101,108,101,99,116,111,114,32,121,67,104,97,110,110,101,108,83,101,108,101,99,116,111,114,32,122,111,111,109,65,110,100,80,97,110]
abbrev aXK:List UInt8:=[97,108,116,71,108,121,112,104,32,97,108,116,71,108,121,112,104,68,101,102,32,97,108,116,71,108,121,112,104,73,116,101,109,32,97,110,105,109,97,116,101,67,111,108,111,114,32,97,110,105,109,97,116,101,77,111,116,105,111,110,32,97,110,105,109,97,116,101,84,114,97,110,115,102,111,114,109,32,99,108,105,112,80,97,116,104,32,102,101,66,108,101,110,100,32,102,101,67,111,108,111,114,77,97,116,114,105,120,32,102,101,67,111,109,112,111,110,101,110,116,84,114,97,110,115,102,101,114,32,102,101,67,111,109,112,111,115,105,116,101,32,102,101,67,111,110,118,111,108,118,101,77,97,116,114,105,120,32,102,101,68,105,102,102,117,115,101,76,105,103,104,116,105,110,103,32,102,101,68,105,115,112,108,97,99,101,109,101,110,116,77,97,112,32,102,101,68,105,115,116,97,110,116,76,105,103,104,116,32,102,101,68,114,111,112,83,104,97,100,111,119,32,102,101,70,108,111,111,100,32,102,101,70,117,110,99,65,32,102,101,70,117,110,99,66,32,102,101,70,117,110,99,71,32,102,101,70,117,110,99,82,32,102,101,71,97,117,115,115,105,97,110,66,108,117,114,32,102,101,73,109,97,103,101,32,102,101,77,101,114,103,101,32,102,101,77,101,114,103,101,78,111,100,101,32,102,101,77,111,114,112,104,111,108,111,103,121,32,102,101,79,102,102,115,101,116,32,102,101,80,111,105,110,116,76,105,103,104,116,32,102,101,83,112,101,99,117,108,97,114,76,105,103,104,116,105,110,103,32,102,101,83,112,111,116,76,105,103,104,116,32,102,101,84,105,108,101,32,102,101,84,117,114,98,117,108,101,110,99,101,32,102,111,114,101,105,103,110,79,98,106,101,99,116,32,103,108,121,112,104,82,101,102,32,108,105,110,101,97,114,71,114,97,100,105,101,110,116,32,114,97,100,105,97,108,71,114,97,100,105,101,110,116,32,116,101,120,116,80,97,116,104]
abbrev aXL:List UInt8:=[97,100,100,114,101,115,115,32,97,114,116,105,99,108,101,32,97,115,105,100,101,32,98,108,111,99,107,113,117,111,116,101,32,98,117,116,116,111,110,32,99,101,110,116,101,114,32,100,101,116,97,105,108,115,32,100,105,97,108,111,103,32,100,105,114,32,100,105,118,32,100,108,32,102,105,101,108,100,115,101,116,32,102,105,103,99,97,112,116,105,111,110,32,102,105,103,117,114,101,32,102,111,111,116,101,114,32,104,101,97,100,101,114,32,104,103,114,111,117,112,32,108,105,115,116,105,110,103,32,109,97,105,110,32,109,101,110,117,32,110,97,118,32,111,108,32,112,114,101,32,115,101,97,114,99,104,32,115,101,99,116,105,111,110,32,115,117,109,109,97,114,121,32,117,108]
abbrev aXM:List UInt8:=[104,116,109,108]
abbrev aXN:List UInt8:=[98,97,115,101,32,98,97,115,101,102,111,110,116,32,98,103,115,111,117,110,100,32,108,105,110,107,32,109,101,116,97,32,110,111,102,114,97,109,101,115,32,115,99,114,105,112,116,32,115,116,121,108,101,32,116,101,109,112,108,97,116,101,32,116,105,116,108,101]
abbrev aXO:List UInt8:=[97,100,100,114,101,115,115,32,97,114,116,105,99,108,101,32,97,115,105,100,101,32,98,108,111,99,107,113,117,111,116,101,32,99,101,110,116,101,114,32,100,101,116,97,105,108,115,32,100,105,97,108,111,103,32,100,105,114,32,100,105,118,32,100,108,32,102,105,101,108,100,115,101,116,32,102,105,103,99,97,112,116,105,111,110,32,102,105,103,117,114,101,32,102,111,111,116,101,114,32,104,101,97,100,101,114,32,104,103,114,111,117,112,32,109,97,105,110,32,109,101,110,117,32,110,97,118,32,111,108,32,112,32,115,101,97,114,99,104,32,115,101,99,116,105,111,110,32,115,117,109,109,97,114,121,32,117,108]
abbrev aXP:List UInt8:=[116,101,109,112,108,97,116,101]
abbrev aXQ:List UInt8:=[98,117,116,116,111,110]
abbrev aXR:List UInt8:=[104,101,97,100]
abbrev aXS:List UInt8:=[98,111,100,121]
abbrev aXT:List UInt8:=[97,114,101,97,32,98,114,32,101,109,98,101,100,32,105,109,103,32,105,109,97,103,101,32,107,101,121,103,101,110,32,119,98,114,32,105,110,112,117,116,32,112,97,114,97,109,32,115,111,117,114,99,101,32,116,114,97,99,107,32,104,114]
abbrev aXU:List UInt8:=[99,97,112,116,105,111,110,32,99,111,108,32,99,111,108,103,114,111,117,112,32,102,114,97,109,101,32,104,101,97,100,32,116,98,111,100,121,32,116,100,32,116,102,111,111,116,32,116,104,32,116,104,101,97,100,32,116,114]
abbrev aXV:List UInt8:=[102,114,97,109,101,115,101,116]
abbrev aXW:List UInt8:=[97,32,98,32,98,105,103,32,99,111,100,101,32,101,109,32,102,111,110,116,32,105,32,110,111,98,114,32,115,32,115,109,97,108,108,32,115,116,114,105,107,101,32,115,116,114,111,110,103,32,116,116,32,117]
abbrev aXX:List UInt8:=[45,47,47,87,51,67,47,47,68,84,68,32,72,84,77,76,32,69,120,112,101,114,105,109,101,110,116,97,108,32,49,57,57,54,48,55,49,50,47,47]
abbrev aXY:List UInt8:=[110,111,115,99,114,105,112,116]
abbrev aXZ:List UInt8:=[45,47,47,87,51,67,47,47,68,84,68,32,72,84,77,76,32,69,120,112,101,114,105,109,101,110,116,97,108,32,57,55,48,52,50,49,47,47]
abbrev aX0:List UInt8:=[111,112,116,105,111,110]
abbrev aX1:List UInt8:=[104,49,32,104,50,32,104,51,32,104,52,32,104,53,32,104,54]
abbrev aX2:List UInt8:=[98,32,98,105,103,32,99,111,100,101,32,101,109,32,102,111,110,116,32,105,32,115,32,115,109,97,108,108,32,115,116,114,105,107,101,32,115,116,114,111,110,103,32,116,116,32,117]
abbrev aX3:List UInt8:=[45,47,47,87,51,67,47,47,68,84,68,32,72,84,77,76,32,52,46,48,32,84,114,97,110,115,105,116,105,111,110,97,108,47,47]
abbrev aX4:List UInt8:=[116,97,98,108,101]
abbrev aX5:List UInt8:=[97,110,110,111,116,97,116,105,111,110,45,120,109,108]
abbrev aX6:List UInt8:=[97,112,112,108,101,116,32,109,97,114,113,117,101,101,32,111,98,106,101,99,116]
abbrev aX7:List UInt8:=[116,105,116,108,101]
abbrev aX8:List UInt8:=[98,97,115,101,102,111,110,116,32,98,103,115,111,117,110,100,32,108,105,110,107,32,109,101,116,97,32,110,111,102,114,97,109,101,115,32,115,116,121,108,101]
abbrev aX9:List UInt8:=[45,47,47,87,51,67,47,47,68,84,68,32,72,84,77,76,32,52,46,48,32,70,114,97,109,101,115,101,116,47,47]
abbrev aYa:List UInt8:=[45,47,47,87,51,67,47,47,68,84,68,32,72,84,77,76,32,51,32,49,57,57,53,45,48,51,45,50,52,47,47]
abbrev aYb:List UInt8:=[116,101,120,116,97,114,101,97,32,120,109,112,32,105,102,114,97,109,101,32,110,111,101,109,98,101,100,32,112,108,97,105,110,116,101,120,116]
abbrev aYc:List UInt8:=[110,111,98,114]
abbrev aYd:List UInt8:=[102,111,114,109]
abbrev aYe:List UInt8:=[99,97,112,116,105,111,110]
abbrev aYf:List UInt8:=[99,97,112,116,105,111,110,32,99,111,108,103,114,111,117,112,32,116,98,111,100,121,32,116,102,111,111,116,32,116,104,101,97,100]
abbrev aYg:List UInt8:=[45,47,47,87,51,67,47,47,68,84,68,32,72,84,77,76,32,52,46,48,49,32,84,114,97,110,115,105,116,105,111,110,97,108,47,47]
abbrev aYh:List UInt8:=[45,47,47,73,69,84,70,47,47,68,84,68,32,72,84,77,76,32,76,101,118,101,108,32]
abbrev aYi:List UInt8:=[45,47,47,73,69,84,70,47,47,68,84,68,32,72,84,77,76,32,83,116,114,105,99,116]
abbrev aYj:List UInt8:=[98,97,115,101,32,98,97,115,101,102,111,110,116,32,98,103,115,111,117,110,100,32,108,105,110,107,32,109,101,116,97]
abbrev aYk:List UInt8:=[45,47,47,87,51,79,47,47,68,84,68,32,87,51,32,72,84,77,76,32,51,46,48,47,47]
abbrev aYl:List UInt8:=[45,47,47,87,51,79,47,47,68,84,68,32,87,51,32,72,84,77,76,32,83,116,114,105,99,116,32,51,46,48,47,47,69,78,47,47]
abbrev aYm:List UInt8:=[99,111,108,103,114,111,117,112]
abbrev aYn:List UInt8:=[45,47,87,51,67,47,68,84,68,32,72,84,77,76,32,52,46,48,32,84,114,97,110,115,105,116,105,111,110,97,108,47,69,78]
abbrev aYo:List UInt8:=[45,47,47,73,69,84,70,47,47,68,84,68,32,72,84,77,76,32,50,46,49,69,47,47]
abbrev aYp:List UInt8:=[115,101,108,101,99,116]
abbrev aYq:List UInt8:=[115,99,114,105,112,116]
abbrev aYr:List UInt8:=[112,108,97,105,110,116,101,120,116]
abbrev aYs:List UInt8:=[45,47,47,87,51,67,47,47,68,84,68,32,72,84,77,76,32,52,46,48,49,32,70,114,97,109,101,115,101,116,47,47]
abbrev aYt:List UInt8:=[102,111,114,101,105,103,110,79,98,106,101,99,116]
abbrev aYu:List UInt8:=[111,112,116,103,114,111,117,112]
abbrev aYv:List UInt8:=[104,101,97,100,32,116,101,109,112,108,97,116,101,32,98,111,100,121,32,104,116,109,108,32,98,114]
abbrev aYw:List UInt8:=[45,47,47,73,69,84,70,47,47,68,84,68,32,72,84,77,76,32,50,46,48]
abbrev aYx:List UInt8:=[45,47,47,87,51,67,47,47,68,84,68,32,87,51,32,72,84,77,76,47,47]
abbrev aYy:List UInt8:=[116,102,111,111,116]
abbrev aYz:List UInt8:=[104,101,97,100,32,98,111,100,121,32,104,116,109,108,32,98,114]
abbrev aYA:List UInt8:=[45,47,47,87,51,67,47,47,68,84,68,32,72,84,77,76,32,51,46,50]
abbrev aYB:List UInt8:=[116,98,111,100,121]
abbrev aYC:List UInt8:=[116,104,101,97,100]
abbrev aYD:List UInt8:=[45,47,47,73,69,84,70,47,47,68,84,68,32,72,84,77,76,32,51]
abbrev aYE:List UInt8:=[45,47,47,73,69,84,70,47,47,68,84,68,32,72,84,77,76,47,47]
abbrev aYF:List UInt8:=[97,112,112,108,105,99,97,116,105,111,110,47,120,104,116,109,108,43,120,109,108]
abbrev aYG:List UInt8:=[109,97,116,104]
abbrev aYH:List UInt8:=[116,101,109,112,108,97,116,101,32,98,111,100,121,32,104,116,109,108,32,98,114]
abbrev aYI:List UInt8:=[116,101,120,116,97,114,101,97]
abbrev aYJ:List UInt8:=[120,108,105,110,107,58,97,114,99,114,111,108,101]
abbrev aYK:List UInt8:=[104,105,100,100,101,110]
abbrev aYL:List UInt8:=[120,108,105,110,107,58,97,99,116,117,97,116,101]
abbrev aYM:List UInt8:=[120,108,105,110,107,58,116,105,116,108,101]
abbrev aYN:List UInt8:=[120,109,108,110,115,58,120,108,105,110,107]
abbrev aYO:List UInt8:=[110,111,102,114,97,109,101,115]
abbrev aYP:List UInt8:=[120,109,108,110,115]
abbrev aYQ:List UInt8:=[120,108,105,110,107,58,104,114,101,102]
abbrev aYR:List UInt8:=[120,108,105,110,107,58,114,111,108,101]
abbrev aYS:List UInt8:=[120,108,105,110,107,58,115,104,111,119]
abbrev aYT:List UInt8:=[120,108,105,110,107,58,116,121,112,101]
abbrev aYU:List UInt8:=[111,112,116,103,114,111,117,112,32,111,112,116,105,111,110]
abbrev aYV:List UInt8:=[105,102,114,97,109,101]
abbrev aYW:List UInt8:=[116,121,112,101]
abbrev aYX:List UInt8:=[109,97,114,113,117,101,101]
abbrev aYY:List UInt8:=[114,117,98,121]
abbrev aYZ:List UInt8:=[110,111,102,114,97,109,101,115,32,115,116,121,108,101]
abbrev aY0:List UInt8:=[100,101,102,105,110,105,116,105,111,110,117,114,108]
abbrev aY1:List UInt8:=[120,109,108,58,115,112,97,99,101]
abbrev aY2:List UInt8:=[100,101,102,105,110,105,116,105,111,110,85,82,76]
abbrev aY3:List UInt8:=[104,101,97,100,32,110,111,115,99,114,105,112,116]
abbrev aY4:List UInt8:=[97,100,100,114,101,115,115,32,100,105,118,32,112]
abbrev aY5:List UInt8:=[114,116,99]
abbrev aY6:List UInt8:=[97,112,112,108,101,116]
abbrev aY7:List UInt8:=[115,111,117,114,99,101]
abbrev aY8:List UInt8:=[120,109,108,58,108,97,110,103]
abbrev aY9:List UInt8:=[98,97,115,101,102,111,110,116]
abbrev aZa:List UInt8:=[111,98,106,101,99,116]
abbrev aZb:List UInt8:=[112,114,101,32,108,105,115,116,105,110,103]
abbrev aZc:List UInt8:=[114,98,32,114,116,99,32,114,112,32,114,116]
abbrev aZd:List UInt8:=[110,111,115,99,114,105,112,116,32,98,114]
abbrev aZe:List UInt8:=[99,111,108]
abbrev aZf:List UInt8:=[105,110,112,117,116]
abbrev aZg:List UInt8:=[98,103,115,111,117,110,100]
abbrev aZh:List UInt8:=[115,116,121,108,101]
abbrev aZi:List UInt8:=[97,100,100,114,101,115,115]
abbrev aZj:List UInt8:=[97,114,99,114,111,108,101]
abbrev aZk:List UInt8:=[105,109,97,103,101]
abbrev aZl:List UInt8:=[97,99,116,117,97,116,101]
abbrev aZm:List UInt8:=[98,108,111,99,107,113,117,111,116,101]
abbrev aZn:List UInt8:=[102,105,103,99,97,112,116,105,111,110]
abbrev aZo:List UInt8:=[112,32,108,105,32,100,100,32,100,116]
abbrev aZp:List UInt8:=[112,97,114,97,109]
abbrev aZq:List UInt8:=[116,114,97,99,107]
abbrev aZr:List UInt8:=[115,116,114,105,107,101]
abbrev aZs:List UInt8:=[115,116,114,111,110,103]
abbrev aZt:List UInt8:=[116,101,120,116,47,104,116,109,108]
abbrev aZu:List UInt8:=[104,116,109,108,32,98,111,100,121]
abbrev aZv:List UInt8:=[102,105,101,108,100,115,101,116]
abbrev aZw:List UInt8:=[105,109,103]
abbrev aZx:List UInt8:=[120,109,112]
abbrev aZy:List UInt8:=[100,101,115,99]
abbrev aZz:List UInt8:=[101,110,99,111,100,105,110,103]
abbrev aZA:List UInt8:=[120,108,105,110,107]
abbrev aZB:List UInt8:=[109,97,116,104,32,115,118,103]
abbrev aZC:List UInt8:=[108,105,32,100,100,32,100,116]
abbrev aZD:List UInt8:=[115,109,97,108,108]
abbrev aZE:List UInt8:=[100,100,32,100,116]
abbrev aZG:List UInt8:=[115,112,97,99,101]
abbrev aZM:List UInt8:=[102,111,110,116]
abbrev aZN:List UInt8:=[104,114,101,102]
abbrev aZO:List UInt8:=[114,111,108,101]
abbrev aZP:List UInt8:=[115,104,111,119]
abbrev aZQ:List UInt8:=[108,105,110,107]
theorem Ac{p:Prop}(h:p:=by omega):p:=h
theorem AB{p:Prop}(h:p:=by simp):p:=h
theorem Az{p:Prop}(h:p:=by decide):p:=h
theorem Ed{p:Prop}(h:p:=by decide +kernel):p:=h
theorem FY{p:Prop}(h:p:=by simp only; omega):p:=h
theorem EE{p:Prop}(h:p:=by simp; omega):p:=h
theorem JF{p:Prop}(h:p:=by simp[Go.Op.operands]):p:=h
theorem Sy{p:Prop}(h:p:=by simp[Go.Value.cells,Go.Value.oneCell']):p:=h
section
section
namespace Go.Am
abbrev Ah:=List UInt8
inductive Ab where
 |bool (b:Bool)
 |int (k:IntKind) (n:Int)
 |str (s:Ah)
 |ptr (p:Option (Nat×Nat))
 |Cd (cells:List Ab)
 |sl (size:Nat) (Ay:List (List Ab))
 |slnil
 |Hi (size:Nat)
 |Du (id off len size:Nat)
 |map (m:Option Nat)
 |func (fn:Fn) (first captured:List Ab)
 |nilFunc
 |iface (t:TypeId) (v:Ab)
 |nilIface
 |agg (cells:List Ab)
 |tuple (vs:List Ab)
 deriving Inhabited
mutual
def Ab.beq:Ab->Ab->Bool
 | .bool a,.bool b=>a==b
 | .int k a,.int l b=>k==l&&a==b
 | .str a,.str b=>a==b
 | .ptr a,.ptr b=>a==b
 | .Cd a,.Cd b=>Ab.Th a b
 | .sl n a,.sl m b=>n==m&&Ab.Ti a b
 | .slnil,.slnil=>true
 | .Hi a,.Hi b=>a==b
 | .Du a b c d,.Du a' b' c' e=>a==a'&&b==b'&&c==c'&&d==e
 | .map a,.map b=>a==b
 | .func f a b,.func f' a' b'=>f==f'&&Ab.Th a a'&&Ab.Th b b'
 | .nilFunc,.nilFunc=>true
 | .iface t a,.iface t' a'=>t==t'&&Ab.beq a a'
 | .nilIface,.nilIface=>true
 | .agg a,.agg b=>Ab.Th a b
 | .tuple a,.tuple b=>Ab.Th a b
 |_,_=>false
def Ab.Th:List Ab->List Ab->Bool
 |[],[]=>true
 |a::x,b::y=>Ab.beq a b&&Ab.Th x y
 |_,_=>false
def Ab.Ti:List (List Ab)->List (List Ab)->Bool
 |[],[]=>true
 |a::x,b::y=>Ab.Th a b&&Ab.Ti x y
 |_,_=>false
end
def Ab.cells:Ab->List Ab
 | .agg cs=>cs
 | .tuple _=>[]
 |v=>[v]
inductive GX where
 |cells (cs:List Ab)
 |map (es:List (Ab×Ab))
 |Ef
 deriving Inhabited
abbrev Ai:=List GX
inductive yd where
 |copy (size:Nat)
 |clear (size:Nat) (zero:List Ab)
 |ou (size:Nat) (lo hi:Bool)
 |sN (size:Nat)
 |aIL (t:TypeId)
 |ov (zero:Ab) (ok:Bool)
 |Ph (zero:Ab)
 |XB (zero:Ab)
 |Lo
 |UE
 |oz
 |XC (g:Ai->List Ab->Option (Ai×Ab))
def yd.fO:yd->Bool
 | .sN _| .clear _ _| .Lo| .UE=>true
 |_=>false
inductive ER where
 |undef
 |skip
 |val (v:Ab)
 |Qk (b:Bool)
 |BU (v:Ab)
 |box (ver:Nat) (cells:List Ab) (BU:List Nat)
 |FD (s off:Nat)
 deriving Inhabited
abbrev BT:=List ER
def BT.at(U:BT)(s:Nat):ER:=U.getD s .undef
def ER.HT:ER->Option Ab
 | .val v| .BU v=>some v
 | .Qk b=>some (.bool b)
 |_=>none
inductive FK where
 |b|i|s
 deriving DecidableEq,Inhabited
inductive NK where
 |sl|fn|mp
 deriving DecidableEq,Inhabited
inductive Z6 where
 |int (op:BinOp)
 |str (op:BinOp)
 |beq (neg:Bool)
 |geq (neg:Bool) (ks:List FK)
 |WN (neg:Bool)
 |Gs (neg:Bool) (k:NK)
 |un (op:UnOp)
 |conv(k:IntKind)
 |pick
 |part (off:Nat) (n:Option Nat)
 |aDN (len size:Nat) (n:Option Nat)
 |Wg
 |GC (off:Nat)
 |Hj (size:Nat)
 |Vv (len size:Nat)
 |len (isStr:Bool)
 |append (size bytes:Nat)
 |Ro (size:Nat) (isStr lo hi:Bool)
 |ext (i:Nat)
 |M6
 |Cb (size:Nat)
 |Hi (size:Nat)
 |Dc (zero:List Ab) (places:List (Nat×Nat))
 |MA (isMax:Bool)
 |XD
 |s2b
 |i2s
 deriving Inhabited
def Qs:Value->Option Ab
 | .bool b=>some (.bool b)
 | .int k n=>some (.int k n)
 | .string s=>some (.str s.data.toList)
 | .pointer none=>some (.ptr none)
 | .slice none 0 0=>some .slnil
 | .map none=>some (.map none)
 | .func fn f c=>if f.size=0/\c.size=0 then some (.func fn [] []) else none
 | .nilFunc=>some .nilFunc
 | .nilIface=>some .nilIface
 |_=>none
def M0:List Value->Option (List Ab)
 |[]=>some []
 |v::vs=>match Qs v,M0 vs with
  |some a,some as=>some (a::as)
  |_,_=>none
def LV:Value->Option Ab
 | .agg cs=>(M0 cs.toList).map .agg
 |v=>Qs v
def Rp:Sem Value->Option Value
 | .pure v=>some v
 |_=>none
def AY:Nat:=140737488355328
def yG(op:BinOp)(k:IntKind)(a:Int)(l:IntKind)(b:Int):Option Ab:=
 (Rp (binOp op 0 (.int k a) (.int l b))).bind λv=>match v with
  | .int k n=>some (.int k n)
  | .bool b=>some (.bool b)
  |_=>none
def mZ(op:BinOp)(a b:Ah):Option Ab:=
 match op with
 | .add=>if a.length+b.length<=9223372036854775807 then some (.str (a++b)) else none
 | .eql=>some (.bool (a==b))
 | .neq=>some (.bool (!(a==b)))
 | .lss=>some (.bool (Op.bytesLess a b))
 | .leq=>some (.bool (Op.bytesLess a b||a==b))
 | .gtr=>some (.bool (!(Op.bytesLess a b||a==b)))
 | .geq=>some (.bool (!(Op.bytesLess a b)))
 |_=>none
def Of:FK->Ab->Ab->Option Bool
 | .b,.bool a,.bool b=>some (a==b)
 | .i,.int k a,.int l b=>if k=l then some (a==b) else none
 | .s,.str a,.str b=>some (a==b)
 |_,_,_=>none
def ED:List FK->List Ab->List Ab->Option Bool
 |[],[],[]=>some true
 |k::ks,a::x,b::y=>match Of k a b,ED ks x y with
  |some e,some es=>some (e&&es)
  |_,_=>none
 |_,_,_=>none
def yH:Ab->Ab->Option Bool
 | .ptr none,.ptr b=>some b.isNone
 | .ptr (some _),.ptr none=>some false
 | .ptr (some a),.ptr (some b)=>if a=b then some true else none
 | .ptr none,.Cd _=>some false
 | .Cd _,.ptr none=>some false
 |_,_=>none
def yI:NK->Ab->Ab->Option Bool
 | .sl,.slnil,.slnil=>some true
 | .sl,.slnil,.sl _ _=>some false
 | .sl,.sl _ _,.slnil=>some false
 | .sl,.slnil,.Hi _=>some false
 | .sl,.Hi _,.slnil=>some false
 | .sl,.slnil,.Du _ _ _ _=>some false
 | .sl,.Du _ _ _ _,.slnil=>some false
 | .fn,.nilFunc,.nilFunc=>some true
 | .fn,.nilFunc,.func _ _ _=>some false
 | .fn,.func _ _ _,.nilFunc=>some false
 | .mp,.map none,.map b=>some b.isNone
 | .mp,.map (some _),.map none=>some false
 |_,_,_=>none
def FN(cs:List Ab)(off:Nat):Option Nat->Option Ab
 |none=>cs[off]?
 |some n=>if off+n<=cs.length then some (.agg ((cs.drop off).take n)) else none
def M7(n:Int)(len:Nat):Option Nat:=if 0<=n/\n<len then some n.toNat else none
def EU(n:Int)(top:Nat):Option Nat:=if 0<=n/\n<=top then some n.toNat else none
def D1(lo hi:Bool)(len:Nat)(as:List Ab):Option (Nat×Nat):=
 match lo,hi with
 |false,false=>match as with
  |[]=>some (0,len)
  |_=>none
 |false,true=>match as with
  |[.int _ h]=>(EU h len).map λh=>(0,h)
  |_=>none
 |true,false=>match as with
  |[.int _ l]=>(EU l len).map λl=>(l,len)
  |_=>none
 |true,true=>match as with
  |[.int _ l,.int _ h]=>(EU h len).bind λh=>(EU l h).map λl=>(l,h)
  |_=>none
def NT:List (List Ab)->Option Ah
 |[]=>some []
 |[.int .u8 n]::rs=>(NT rs).map λl=>n.toNat.toUInt8::l
 |_=>none
def CN(s:Ah):List (List Ab):=s.map λb=>[.int .u8 b.toNat]
def D2(size bytes:Nat)(s:Ab)(Ay:List (List Ab)):Option Ab:=
 match Ay with
 |[]=>match s with
  | .slnil=>some .slnil
  | .Hi z=>if z=size then some (.Hi z) else none
  | .sl z r=>if z=size then some (.sl z r) else none
  |_=>none
 |Ay=>match s with
  | .slnil=>if Ay.length*bytes<=AY then some (.sl size Ay) else none
  | .Hi z=>if z=size/\Ay.length*bytes<=AY then some (.sl size Ay) else none
  | .sl z r=>if z=size/\(r.length+Ay.length)*bytes<=AY then some (.sl size (r++Ay)) else none
  |_=>none
def Cl(cs:List Ab):List ((Nat×Nat)×Ab)->Option (List Ab)
 |[]=>some cs
 |((off,size),v)::rest=>if 0<size/\v.cells.length=size/\off+size<=cs.length then Cl (cs.take off++v.cells++cs.drop (off+size)) rest else none
def aCy(k:IntKind)(n:Int):Option Ab:=
 (Rp (Op.unary .xor (.int k n))).bind λv=>match v with
  | .int k n=>some (.int k n)
  |_=>none
def aDO:UnOp->Ab->Option Ab
 | .not,.bool b=>some (.bool (!b))
 | .neg,.int k n=>some (.int k (k.wrap (0 -n)))
 | .xor,.int k n=>aCy k n
 |_,_=>none
def XE(p:Ab)(off:Nat):Option Ab:=
 match p with
 | .Cd cs=>some (.Cd (cs.drop off))
 | .ptr (some (id,o))=>some (.ptr (some (id,o+off)))
 |_=>none
def elemOf(size:Nat)(s:Ab)(i:Int):Option Ab:=
 match s with
 | .sl z Ay=>if z=size then(if 0<=i then(Ay[i.toNat]?).map .Cd else none) else none
 | .Du id off len z=>if z=size then(M7 i len).map λi=> .ptr (some (id,off+i*size)) else none
 |_=>none
def lenOf(isStr:Bool)(s:Ab):Option Ab:=
 match s with
 | .sl _ Ay=>if isStr then none else some (.int .i64 Ay.length)
 | .Du _ _ n _=>if isStr then none else some (.int .i64 n)
 | .slnil=>if isStr then none else some (.int .i64 0)
 | .Hi _=>if isStr then none else some (.int .i64 0)
 | .str s=>if isStr then some (.int .i64 s.length) else none
 |_=>none
def I9(size bytes:Nat)(s x:Ab):Option Ab:=
 match x with
 | .slnil=>D2 size bytes s []
 | .Hi z=>if z=size then D2 size bytes s [] else none
 | .sl z Ay=>if z=size then D2 size bytes s Ay else none
 | .str x=>if size=1 then D2 size bytes s (CN x) else none
 |_=>none
def JC(size:Nat)(isStr lo hi:Bool)(s:Ab)(as:List Ab):Option Ab:=
 match s with
 | .str s=>if isStr then(D1 lo hi s.length as).map λ(l,h)=> .str ((s.take h).drop l) else none
 | .sl z Ay=>if isStr=false/\z=size then(D1 lo hi Ay.length as).map λ(l,h)=> .sl z ((Ay.take h).drop l) else none
 | .Du id off n z=>if isStr=false/\z=size then(D1 lo hi n as).bind λ(l,h)=>if l<n then some (.Du id (off+l*z) (h-l) z) else some (.sl z []) else none
 | .slnil=>if isStr then none else(D1 lo hi 0 as).map λ_=> .slnil
 |_=>none
def nA:Ab->Option Ab
 | .ptr (some p)=>some (.ptr (some p))
 | .Cd cs=>some (.Cd cs)
 | .func (.func f) a b=>some (.func (.func f) a b)
 |_=>none
def fP:Ab->Option Ab
 | .sl 1 Ay=>(NT Ay).map .str
 | .slnil=>some (.str [])
 |_=>none
def AE(p:Z6)(args:List Ab):Option Ab:=
 match p with
 | .int op=>match args with
  |[.int k a,.int l b]=>yG op k a l b
  |_=>none
 | .str op=>match args with
  |[.str a,.str b]=>mZ op a b
  |_=>none
 | .beq neg=>match args with
  |[.bool a,.bool b]=>some (.bool ((a==b) != neg))
  |_=>none
 | .geq neg ks=>match args with
  |[.agg a,.agg b]=>(ED ks a b).map λe=> .bool (e != neg)
  |_=>none
 | .WN neg=>match args with
  |[a,b]=>(yH a b).map λe=> .bool (e != neg)
  |_=>none
 | .Gs neg k=>match args with
  |[a,b]=>(yI k a b).map λe=> .bool (e != neg)
  |_=>none
 | .un op=>match args with
  |[v]=>aDO op v
  |_=>none
 | .conv k=>match args with
  |[.int _ n]=>some (.int k (k.wrap n))
  |_=>none
 | .i2s=>match args with
  |[.int _ n]=>some (.str (Utf8.encode n).data.toList)
  |_=>none
 | .pick=>match args with
  |[.bool c,a,b]=>some (if c then a else b)
  |_=>none
 | .part off n=>match args with
  |[.agg cs]=>FN cs off n
  |_=>none
 | .aDN len size n=>match args with
  |[.agg cs,.int _ i]=>(M7 i len).bind λi=>FN cs (i*size) n
  |_=>none
 | .Wg=>match args with
  |[.str s,.int _ i]=>if 0<=i then(s[i.toNat]?).map λb=> .int .u8 b.toNat else none
  |_=>none
 | .GC off=>match args with
  |[p]=>XE p off
  |_=>none
 | .Hj size=>match args with
  |[s,.int _ i]=>elemOf size s i
  |_=>none
 | .Vv len size=>match args with
  |[p,.int _ i]=>(M7 i len).bind λi=>XE p (i*size)
  |_=>none
 | .len isStr=>match args with
  |[s]=>lenOf isStr s
  |_=>none
 | .append size bytes=>match args with
  |[s,x]=>I9 size bytes s x
  |_=>none
 | .Ro size isStr lo hi=>match args with
  |s::as=>JC size isStr lo hi s as
  |_=>none
 | .ext i=>match args with
  |[.tuple vs]=>vs[i]?
  |_=>none
 | .M6=>match args with
  |[v]=>nA v
  |_=>none
 | .Cb size=>if args.all (λa=>a.cells.length==size)&&decide (args.length*size<=16777216) then some (.sl size (args.map (·.cells))) else none
 | .Hi size=>if args.isEmpty then some (.Hi size) else none
 | .Dc zero places=>if places.length=args.length then(Cl zero (places.zip args)).map .agg else none
 | .MA isMax=>match args with
  |[.int k a,.int l b]=>if k=l then some (.int k (if isMax then(if b>a then b else a) else(if b<a then b else a))) else none
  |_=>none
 | .XD=>match args with
  |[v]=>fP v
  |_=>none
 | .s2b=>match args with
  |[.str s]=>if s.length<=AY then some (.sl 1 (CN s)) else none
  |_=>none
inductive GD where
 |normal
 |exit (id:Nat)
 |ret
 deriving DecidableEq,Inhabited
inductive IT where
 |ret (x:GD) (vs:List Ab)
 |fail
 |op (o:Z6) (args:List Ab) (k:Ab->IT)
 |cells (n:Nat) (v:Ab) (k:List Ab->IT)
 |A0 (c:Ab) (t e:IT)
 |load (n:Option Nat) (p:Ab) (k:Ab->IT)
 |store (n:Nat) (p v:Ab) (k:IT)
 |alloc (n:Nat) (v:Ab) (k:Ab->IT)
 |call (f:FuncId) (args:List Ab) (k:Ab->IT)
 |EJ (fn:Ab) (args:List Ab) (k:Ab->IT)
 |Bz (f:FuncId) (args:List Ab) (k:Ab->IT)
 |loop (key:Nat) (init:List Ab) (body:List Ab->IT) (k:GD->List Ab->IT)
 |GY (key:Nat) (t:IT) (k:GD->List Ab->IT)
 |same (a b:Ab) (k:IT)
 |Oy (k:Ab->IT)
 |Iw (m key v:Ab) (k:IT)
 |M8 (zero:Ab) (ok:Bool) (m key:Ab) (k:Ab->IT)
 |make (size bytes:Nat) (zero:List Ab) (len cap:Ab) (k:Ab->IT)
 |Ks (size bytes:Nat) (s x:Ab) (k:Ab->IT)
 |Fq (s:Ab) (k:Ab->IT)
 |UF (v:Ab) (k:Ab->IT)
 |Ja (off:Nat) (p:Ab) (k:IT)
 |GZ (size bytes:Nat) (s x:Ab) (k:Ab->IT)
 |GW (size bytes:Nat) (s x:Ab) (k:Ab->IT)
 |mem (o:yd) (args:List Ab) (k:Ab->IT)
 |yJ (f:FuncId) (args:List Ab) (k:Ab->IT)
 deriving Inhabited
def Ab.NI:Ab->Bool
 | .bool _| .int _ _| .str _=>true
 |_=>false
def Bp(h:Ai)(n:Option Nat):Ab->Option Ab
 | .Cd cs=>FN cs 0 n
 | .ptr (some (id,off))=>match h[id]? with
  |some (.cells cs)=>FN cs off n
  |_=>none
 |_=>none
def Dd(h:Ai)(n:Nat)(p v:Ab):Option Ai:=
 match p with
 | .ptr (some (id,off))=>match h[id]? with
  |some (.cells cs)=>if v.cells.length=n/\off+n<=cs.length then some (h.set id (.cells (cs.take off++v.cells++cs.drop (off+n)))) else none
  |_=>none
 |_=>none
def XF(h:Ai)(n:Nat)(v:Ab):Option (Ai×Ab):=
 if v.cells.length=n then some (h++[.cells v.cells],.ptr (some (h.length,0))) else none
def Tj(s:Ah):List (Ab×Ab)->Option (Option Ab)
 |[]=>some none
 |(.str t,v)::es=>if s=t then some (some v) else Tj s es
 |_=>none
def Oz(s:Ah)(v:Ab):List (Ab×Ab)->Option (List (Ab×Ab))
 |[]=>some [(.str s,v)]
 |(.str t,v')::es=>if s=t then some ((.str s,v)::es) else(Oz s v es).map λes=>(.str t,v')::es
 |_=>none
def R2(h:Ai)(m k v:Ab):Option Ai:=
 match m,k with
 | .map (some id),.str s=>match h[id]? with
  |some (.map es)=>(Oz s v es).map λes=>h.set id (.map es)
  |_=>none
 |_,_=>none
def UG(h:Ai)(m k:Ab):Option (Option Ab):=
 match m,k with
 | .map none,.str _=>some none
 | .map (some id),.str s=>match h[id]? with
  |some (.map es)=>Tj s es
  |_=>none
 |_,_=>none
def P6(h:Ai)(zero:Ab)(ok:Bool)(m k:Ab):Option Ab:=
 (UG h m k).map λr=>match r with
  |some v=>if ok then .tuple [v,.bool true] else v
  |none=>if ok then .tuple [zero,.bool false] else zero
def XG(h:Ai)(size bytes:Nat)(zero:List Ab):Ab->Ab->Option (Ai×Ab)
 | .int .i64 n,.int .i64 c=>if 0<=n/\n<=c/\c.toNat*bytes<=AY/\zero.length=size then
  some (h++[.cells (List.replicate c.toNat zero).flatten],.Du h.length 0 n.toNat size) else none
 |_,_=>none
def Pj(size:Nat):Ab->Bool
 | .slnil=>true
 | .Hi z=>z==size
 | .sl z []=>z==size
 |_=>false
def Lp(h:Ai)(size bytes:Nat)(s:Ab):Ab->Option (Ai×Ab)
 | .sl z Ay=>if Pj size s then(match Ay with
   |[]=>some (h,s)
   |Ay=>if z=size/\Ay.length*bytes<=AY then some (h++[.cells Ay.flatten],.Du h.length 0 Ay.length size) else none)
  else none
 | .slnil=>if Pj size s then some (h,s) else none
 | .Hi z=>if Pj size s&&z==size then some (h,s) else none
 |_=>none
def JD(h:Ai):Ab->Option (Ai×Ab)
 | .str s=>if s.length<=AY then some (h++[.cells (s.map λb=> .int .u8 b.toNat)],.Du h.length 0 s.length 1) else none
 |_=>none
def CI(cs:List Ab)(z:Nat):Nat->Nat->List (List Ab)
 |_,0=>[]
 |off,n+1=>(cs.drop off).take z::CI cs z (off+z) n
def L6(h:Ai):Ab->Option (Ai×Ab)
 | .Du id off n z=>match h[id]? with
  |some (.cells cs)=>if off+n*z<=cs.length then some (h.set id .Ef,.sl z (CI cs z off n)) else none
  |_=>none
 |v=>some (h,v)
def Lq(h:Ai)(off:Nat)(p:Ab):Option Ai:=
 match p with
 | .ptr none=>some h
 | .ptr (some (id,o))=>match h[id]? with
  |some (.cells cs)=>match cs[o+off]? with
   |some v=>(L6 h v).bind λ(h',v')=>match h'[id]? with
    |some (.cells Hz)=>some (h'.set id (.cells (Hz.set (o+off) v')))
    |_=>none
   |none=>none
  |_=>none
 |_=>none
def Ij(h:Ai)(size:Nat):Ab->Option (List (List Ab))
 | .slnil=>some []
 | .Hi z=>if z=size then some [] else none
 | .sl z Ay=>if z=size then some Ay else none
 | .str s=>if size=1 then some (CN s) else none
 | .Du id off n z=>if z=size then match h[id]? with
   |some (.cells cs)=>if off+n*z<=cs.length then some (CI cs z off n) else none
   |_=>none
  else none
 |_=>none
def Hk(h:Ai)(size bytes:Nat)(s x:Ab):Option (Ai×Ab):=
 match Ij h size x with
 |none=>none
 |some []=>match s with
  | .slnil=>some (h,s)
  | .Hi z=>if z=size then some (h,s) else none
  | .Du _ _ _ z=>if z=size then some (h,s) else none
  |_=>none
 |some Ay=>match s with
  | .slnil=>if Ay.length*bytes<=AY then some (h++[.cells Ay.flatten],.Du h.length 0 Ay.length size) else none
  | .Hi z=>if z=size/\Ay.length*bytes<=AY then some (h++[.cells Ay.flatten],.Du h.length 0 Ay.length size) else none
  | .Du id off n z=>match h[id]? with
   |some (.cells cs)=>if z=size then
     (if off+(n+Ay.length)*z<=cs.length then some (h.set id (.cells (cs.take (off+n*z)++Ay.flatten++cs.drop (off+(n+Ay.length)*z))),.Du id off (n+Ay.length) z)
     else if off=0/\n*z<=cs.length/\(n+Ay.length)*bytes<=AY then some (h.set id .Ef++[.cells (cs.take (n*z)++Ay.flatten)],.Du h.length 0 (n+Ay.length) z) else none)
    else none
   |_=>none
  |_=>none
def R4(h:Ai)(size bytes:Nat)(s x:Ab):Option Ab:=(Ij h size x).bind (D2 size bytes s)
def ye(h:Ai)(size:Nat)(d x:Ab):Option (Ai×Ab):=
 match Ij h size x with
 |none=>none
 |some Ay=>match d with
  | .slnil=>if Ay.length=0 then some (h,.int .i64 0) else none
  | .Du id off n z=>match h[id]? with
   |some (.cells cs)=>if z=size/\Ay.length<=n/\off+n*z<=cs.length then some (h.set id (.cells (cs.take off++Ay.flatten++cs.drop (off+Ay.length*z))),.int .i64 Ay.length) else none
   |_=>none
  |_=>none
def XH(h:Ai)(size:Nat)(zero:List Ab):Ab->Option (Ai×Ab)
 | .slnil=>some (h,.bool true)
 | .Du id off n z=>match h[id]? with
  |some (.cells cs)=>if z=size/\zero.length=size/\off+n*z<=cs.length then some (h.set id (.cells (cs.take off++(List.replicate n zero).flatten++cs.drop (off+n*z))),.bool true) else none
  |_=>none
 |_=>none
def nB(h:Ai)(size:Nat)(lo hi:Bool)(s:Ab)(as:List Ab):Option (Ai×Ab):=
 match s with
 | .Du id off n z=>match h[id]? with
  |some (.cells cs)=>if z=size/\hi=true/\off<=cs.length then(D1 lo hi ((cs.length-off)/z) as).bind λ(l,r)=>if l<(cs.length-off)/z then some (h,.Du id (off+l*z) (r-l) z) else none else none
  |_=>none
 |_=>none
def XI(size:Nat):List Ab->Bool
 |[s,.int _ l,.int _ r,.int _ m]=>match s with
  | .Du _ _ n z=>z=size&&decide (0<=l)&&decide (l<=r)&&decide (r<=m)&&decide (m<=n)
  | .sl z Ay=>z=size&&decide (0<=l)&&decide (l<=r)&&decide (r<=m)&&decide (m<=Ay.length)
  |_=>false
 |_=>false
def Jb(k:Int):List (Ab×Ab)->Nat->Option (Option (Nat×Ab))
 |[],_=>some none
 |(.int .i64 t,v)::es,i=>if k=t then some (some (i,v)) else Jb k es (i+1)
 |_,_=>none
def UH(zero:Ab)(ok:Bool):Option (Nat×Ab)->Ab
 |some (_,v)=>if ok then .tuple [v,.bool true] else v
 |none=>if ok then .tuple [zero,.bool false] else zero
def nC(h:Ai)(zero:Ab)(ok:Bool)(m k:Ab):Option (Ai×Ab):=
 match m,k with
 | .map none,.int .i64 _=>some (h,UH zero ok none)
 | .map (some id),.int .i64 n=>match h[id]? with
  |some (.map es)=>(Jb n es 0).map λr=>(h,UH zero ok r)
  |_=>none
 |_,_=>none
def WO(h:Ai)(zero m k:Ab):Option (Ai×Ab):=
 match m,k with
 | .map (some id),.int .i64 n=>match h[id]? with
  |some (.map es)=>(Jb n es 0).map λr=>match r with
   |some (i,v)=>(h,.tuple [v,.int .i64 i])
   |none=>(h.set id (.map (es++[(k,zero)])),.tuple [zero,.int .i64 es.length])
  |_=>none
 |_,_=>none
def Sp(k:Ah):List (Ab×Ab)->Nat->Option (Option (Nat×Ab))
 |[],_=>some none
 |(.str t,v)::es,i=>if k=t then some (some (i,v)) else Sp k es (i+1)
 |_,_=>none
def WQ(h:Ai)(zero m k:Ab):Option (Ai×Ab):=
 match m,k with
 | .map (some id),.str n=>match h[id]? with
  |some (.map es)=>(Sp n es 0).map λr=>match r with
   |some (i,v)=>(h,.tuple [v,.int .i64 i])
   |none=>(h.set id (.map (es++[(k,zero)])),.tuple [zero,.int .i64 es.length])
  |_=>none
 |_,_=>none
def Tk(h:Ai)(m i v:Ab):Option (Ai×Ab):=
 match m,i with
 | .map (some id),.int .i64 n=>match h[id]? with
  |some (.map es)=>if 0<=n then match es[n.toNat]? with
   |some (k,_)=>some (h.set id (.map (es.set n.toNat (k,v))),.bool true)
   |none=>none
   else none
  |_=>none
 |_,_=>none
def yK(h:Ai)(m k v:Ab):Option (Ai×Ab):=
 match m,k with
 | .map (some id),.int .i64 n=>match h[id]? with
  |some (.map es)=>match Jb n es 0 with
   |some none=>some (h.set id (.map (es++[(.int .i64 n,v)])),.bool true)
   |_=>none
  |_=>none
 |_,_=>none
def Rq(h:Ai):List Ab->Option (Ai×Ab)
 |[.slnil,.int .i64 i,.sl 1 [[.int .i64 x]]]=>if i=0 then some (h++[.cells [.int .i64 x]],.Du h.length 0 1 1) else none
 |[.Du id 0 n 1,.int .i64 i,.sl 1 [[.int .i64 x]]]=>match h[id]? with
  |some (.cells cs)=>if 0<=i/\i.toNat<=n/\n<=cs.length/\(n+1)*8<=AY then some (h.set id .Ef++[.cells (cs.take i.toNat++[.int .i64 x]++(cs.take n).drop i.toNat)],.Du h.length 0 (n+1) 1) else none
  |_=>none
 |_=>none
def Ey(o:yd)(h:Ai)(args:List Ab):Option (Ai×Ab):=
 match o with
 | .copy size=>match args with
  |[d,x]=>ye h size d x
  |_=>none
 | .clear size zero=>match args with
  |[s]=>XH h size zero s
  |_=>none
 | .ou size lo hi=>match args with
  |s::as=>nB h size lo hi s as
  |_=>none
 | .sN size=>if XI size args then some (h,.bool true) else none
 | .aIL t=>match args with
  |[v]=>some (h,.iface t v)
  |_=>none
 | .ov zero ok=>match args with
  |[m,k]=>nC h zero ok m k
  |_=>none
 | .Ph zero=>match args with
  |[m,k]=>WO h zero m k
  |_=>none
 | .XB zero=>match args with
  |[m,k]=>WQ h zero m k
  |_=>none
 | .Lo=>match args with
  |[m,i,v]=>Tk h m i v
  |_=>none
 | .UE=>match args with
  |[m,k,v]=>yK h m k v
  |_=>none
 | .oz=>Rq h args
 | .XC g=>g h args
def Fl(f:FuncId):FuncId:=if f<=99999 then f else f%100000
def CR:Ab->List Ab->Option (FuncId×List Ab)
 | .func (.func f) first captured,args=>if f<=99999 then some (f,first++args++captured) else none
 |_,_=>none
abbrev KE:=GD×List Ab×Ai
def IT.step(fn:FuncId->List Ab->IT)(rec:IT->Ai->Option KE):IT->Ai->Option KE
 | .ret x vs,h=>some (x,vs,h)
 | .fail,_=>none
 | .op o args k,h=>match AE o args with
  |some v=>IT.step fn rec (k v) h
  |none=>none
 | .cells n v k,h=>if v.cells.length=n then IT.step fn rec (k v.cells) h else none
 | .A0 c t e,h=>match c with
  | .bool true=>IT.step fn rec t h
  | .bool false=>IT.step fn rec e h
  |_=>none
 | .load n p k,h=>match Bp h n p with
  |some v=>IT.step fn rec (k v) h
  |none=>none
 | .store n p v k,h=>match Dd h n p v with
  |some h'=>IT.step fn rec k h'
  |none=>none
 | .alloc n v k,h=>match XF h n v with
  |some (h',p)=>IT.step fn rec (k p) h'
  |none=>none
 | .call f args k,h=>match rec (fn f args) h with
  |some (.ret,[r],h')=>IT.step fn rec (k r) h'
  |_=>none
 | .EJ g args k,h=>match CR g args with
  |some (f,args)=>match rec (fn f args) h with
   |some (.ret,[r],h')=>IT.step fn rec (k r) h'
   |_=>none
  |none=>none
 | .Bz f args k,h=>if args.all Ab.NI then match rec (fn f args) [] with
   |some (.ret,[r],_)=>if r.NI then IT.step fn rec (k r) h else none
   |_=>none
  else none
 | .loop key init body k,h=>match IT.step fn rec (body init) h with
  |some (.normal,vs,h')=>rec (.loop key vs body k) h'
  |some (x,vs,h')=>IT.step fn rec (k x vs) h'
  |none=>none
 | .GY _ t k,h=>match IT.step fn rec t h with
  |some (x,vs,h')=>IT.step fn rec (k x vs) h'
  |none=>none
 | .same a b k,h=>if Ab.beq a b then IT.step fn rec k h else none
 | .Oy k,h=>IT.step fn rec (k (.map (some h.length))) (h++[.map []])
 | .Iw m key v k,h=>match R2 h m key v with
  |some h'=>IT.step fn rec k h'
  |none=>none
 | .M8 zero ok m key k,h=>match P6 h zero ok m key with
  |some v=>IT.step fn rec (k v) h
  |none=>none
 | .make size bytes zero len cap k,h=>match XG h size bytes zero len cap with
  |some (h',v)=>IT.step fn rec (k v) h'
  |none=>none
 | .Ks size bytes s x k,h=>match Lp h size bytes s x with
  |some (h',v)=>IT.step fn rec (k v) h'
  |none=>none
 | .Fq s k,h=>match JD h s with
  |some (h',v)=>IT.step fn rec (k v) h'
  |none=>none
 | .UF v k,h=>match L6 h v with
  |some (h',v')=>IT.step fn rec (k v') h'
  |none=>none
 | .Ja off p k,h=>match Lq h off p with
  |some h'=>IT.step fn rec k h'
  |none=>none
 | .GZ size bytes s x k,h=>match Hk h size bytes s x with
  |some (h',v)=>IT.step fn rec (k v) h'
  |none=>none
 | .GW size bytes s x k,h=>match R4 h size bytes s x with
  |some v=>IT.step fn rec (k v) h
  |none=>none
 | .mem o args k,h=>match Ey o h args with
  |some (h',v)=>IT.step fn rec (k v) h'
  |none=>none
 | .yJ f args k,h=>match rec (fn f args) [] with
  |some (.ret,[r],_)=>if r.NI then IT.step fn rec (k r) h else none
  |_=>none
def IT.run(fn:FuncId->List Ab->IT):Nat->IT->Ai->Option KE
 |0=>λ_ _=>none
 |n+1=>IT.step fn (IT.run fn n)
end Go.Am
end
section
namespace Go.Am
inductive Sh where
 |val
 |BU
 |box (n:Nat) (BU:List Nat)
 deriving Inhabited
inductive yL where
 |Qt|heap
 deriving DecidableEq,Inhabited
structure Gw where
 P:Program
 aDP:FuncId->Nat->List (Nat×Sh)
 aCz:FuncId->Nat->Option (List (Nat×Sh))
 aCA:FuncId->Nat->Option (List (Nat×Sh))
 kind:FuncId->Nat->yL
 KK:FuncId->Bool
 aCB:FuncId->Bool
 o_:FuncId->Nat->Bool
 aIM:FuncId->Nat->Bool
 yf:FuncId->Bool
 yg:FuncId->List (Nat×Nat)
 HO:Nat->Option (List Ab)
 aDQ:FuncId->Option (List Ab->IT)
 alt:FuncId->FuncId->FuncId
 Mw:FuncId->Bool
inductive E2 where
 |pure (ws:List (Nat×ER))
 |op (p:Z6) (args:List Ab) (dst:Option Nat) (BU:Bool) (DU:Option (Nat×Ab))
 |box (n:Nat) (v:Ab) (dst:Nat)
 |closure (fn:Fn) (first captured:List Ab) (froze:List (Nat×List Ab)) (dst:Nat)
 |Og (s off n:Nat) (v:Ab) (BU:Bool) (DU:Option (Nat×Ab)) (ver:Nat) (cells:List Ab) (owned:List Nat)
 |load (n:Option Nat) (p:Ab) (dst:Option Nat)
 |store (n:Nat) (p v:Ab)
 |alloc (n:Nat) (v:Ab) (dst:Option Nat)
 |call (f:FuncId) (args:List Ab) (dst:Option Nat)
 |EJ (g:Ab) (args:List Ab) (dst:Option Nat)
 |Bz (f:FuncId) (args:List Ab) (dst:Option Nat)
 |Oy (dst:Option Nat)
 |Iw (m k v:Ab)
 |M8 (zero:Ab) (ok:Bool) (m k:Ab) (dst:Option Nat)
 |make (size bytes:Nat) (zero:List Ab) (len cap:Ab) (dst:Option Nat)
 |Ks (size bytes:Nat) (s x:Ab) (dst:Option Nat) (DU:Option (Nat×Ab))
 |GZ (size bytes:Nat) (s x:Ab) (dst:Option Nat)
 |GW (size bytes:Nat) (s x:Ab) (dst:Option Nat) (DU:Option (Nat×Ab))
 |Fq (s:Ab) (dst:Option Nat)
 |XD (v:Ab) (dst:Option Nat)
 |mem (o:yd) (args:List Ab) (dst:Option Nat)
def B1(P:Program)(t:TypeId):Option Nat:=(P.info? t).map (·.size)
def KL(P:Program)(t:TypeId):Option Nat:=(P.info? t).map (·.bytes)
def FL(P:Program)(t:TypeId):Option (Option Nat):=
 match P.underlying t with
 |some (.struct _)|some (.array _ _)=>(B1 P t).map some
 |some _=>some none
 |none=>none
def HB(P:Program)(t:TypeId):Option Ab:=((P.info? t).bind (·.zero)).bind LV
def XJ(rec:TypeId->Option (List FK)):List Field->Nat->Option (List FK)
 |[],_=>some []
 |f::fs,off=>if f.name≠ "_"/\f.offset=off then match rec f.type with
   |some ks=>(XJ rec fs (off+ks.length)).map (ks++·)
   |none=>none
  else none
def Qu(P:Program):Nat->TypeId->Option (List FK)
 |0,_=>none
 |d+1,t=>
  let one (k:FK):Option (List FK):=if B1 P t=some 1 then some [k] else none
  match P.underlying t with
  |some .bool=>one .b
  |some (.int _)=>one .i
  |some .string=>one .s
  |some (.struct fs)=>match XJ (Qu P d) fs.toList 0 with
   |some ks=>if B1 P t=some ks.length/\P.stoodInHeld t=false then some ks else none
   |none=>none
  |_=>none
def Jc(P:Program)(s:TypeId)(f:Nat):Option (Nat×Option Nat):=
 match P.underlying s with
 |some (.struct fs)=>match fs[f]? with
  |some fd=>match B1 P fd.type,FL P fd.type with
   |some (_+1),some sh=>some (fd.offset,sh)
   |_,_=>none
  |none=>none
 |_=>none
def Er(C:Gw)(U:BT):Operand->Option ER
 | .tmp t=>some (U.at t)
 | .const (.bool b)=>some (.Qk b)
 | .const (.slice none 0 0)=>some (.BU .slnil)
 | .const v=>(LV v).map .val
 | .global g=>(C.HO g).map λcs=> .val (.Cd cs)
 | .func f=>some (.val (.func (.func f) [] []))
def Fi(C:Gw)(U:BT)(x:Operand):Option Ab:=(Er C U x).bind ER.HT
def Bs(C:Gw)(U:BT):List Operand->Option (List Ab)
 |[]=>some []
 |x::xs=>match Fi C U x,Bs C U xs with
  |some v,some vs=>some (v::vs)
  |_,_=>none
def yh(ops:List Oper)(d:Nat):Bool:=
 ops.any λo=>match o.op with
  | .call c=>(match c.callee with| .builtin .append=>true|_=>false)&&(match(c.args[0]?:Option Operand) with|some (.tmp t)=>t==d|_=>false)
  |_=>false
def Jd:ER->Option ER
 | .val v=>some (.val v)
 | .Qk b=>some (.Qk b)
 | .BU v=>some (.val v)
 | .FD s o=>some (.FD s o)
 |_=>none
def Tl(x:Operand)(v:Ab):List (Nat×ER):=
 match x with
 | .tmp s=>[(s,.val v)]
 |_=>[]
def Lr(C:Gw)(U:BT)(x:Operand)(d:Nat)(take:Bool):Option E2:=
 match x,Er C U x with
 | .tmp s,some (.box _ _ _)=>some (.pure [(d,.FD s 0)])
 | .const _,some sl=>some (.pure [(d,sl)])
 |x,some (.BU v)=>if take then some (.pure (Tl x v++[(d,.BU v)])) else(Jd (.BU v)).map λs=> .pure [(d,s)]
 |_,some s=>(Jd s).map λs=> .pure [(d,s)]
 |_,none=>none
def XK(cs:List Ab):List Nat:=(List.range cs.length).filter λi=>match cs.getD i .nilIface with| .slnil=>true|_=>false
def Oh(U:BT)(ds:List Nat):Bool:=U.all λs=>match s with| .FD s _=> !ds.contains s|_=>true
def BT.drop(U:BT)(ds:List Nat):BT:=match ds with|[]=>U|ds=>U.map λs=>match s with| .FD s o=>if ds.contains s then .undef else .FD s o|s=>s
def Vw(C:Gw)(fid:FuncId)(t:TypeId)(v:Ab)(d:Nat):Option E2:=
 match B1 C.P t with
 |none=>none
 |some n=>if n=0 then none else match C.kind fid d with
  | .Qt=>some (.box n v d)
  | .heap=>some (.alloc n v (some d))
inductive aDR where
 |Qt (s off ver:Nat) (cells:List Ab) (BU:List Nat)
 |ptr (p:Ab)
def GF(C:Gw)(U:BT)(x:Operand):Option aDR:=
 match x,Er C U x with
 | .tmp s,some (.box ver cs ow)=>some (.Qt s 0 ver cs ow)
 |_,some (.FD s o)=>match U.at s with
  | .box ver cs ow=>some (.Qt s o ver cs ow)
  |_=>none
 |_,some s=>s.HT.map .ptr
 |_,none=>none
def Dv(U:BT):Operand->Option (Nat×Ab)
 | .tmp s=>match U.at s with
  | .BU v=>some (s,v)
  |_=>none
 |_=>none
def L7(C:Gw)(U:BT)(x:Operand):Bool:=match Er C U x with|some (.BU _)=>true|_=>false
def MB(C:Gw)(U:BT)(t:TypeId)(x:Operand)(d:Nat)(take:Bool):Option E2:=
 match FL C.P t,GF C U x with
 |some n,some (.ptr p)=>some (.load n p (some d))
 |some none,some (.Qt s o ver cs ow)=>
  if o<cs.length then
   let v:=cs.getD o .nilIface
   if ow.contains o&& !(ow.erase o).contains o&&take then some (.pure [(s,.box (ver+1) cs (ow.erase o)),(d,.BU v)])
   else some (.pure [(d,.val v)])
  else none
 |some (some n),some (.Qt _ o _ cs _)=>if o+n<=cs.length then some (.pure [(d,.val (.agg ((cs.drop o).take n)))]) else none
 |_,_=>none
def Kd(C:Gw)(U:BT)(t:TypeId)(x y:Operand):Option E2:=
 match B1 C.P t,FL C.P t,GF C U x,Fi C U y with
 |some (n+1),_,some (.ptr p),some v=>some (.store (n+1) p v)
 |some (n+1),some sh,some (.Qt s o ver cs ow),some v=>
  if o+(n+1)<=cs.length then
   let BU:=sh.isNone&&L7 C U y
   some (.Og s o (n+1) v BU (if BU then Dv U y else none) ver cs ow)
  else none
 |_,_,_,_=>none
def UI(P:Program)(t:TypeId)(neg:Bool)(u:TypeDesc):Option Z6:=
 match u with
 | .bool=>some (.beq neg)
 | .struct _=>if P.eqGuardType P.depth t=false then(Qu P 20 t).map (.geq neg) else none
 | .pointer e=>if(B1 P e).getD 0=0 then none else some (.WN neg)
 | .slice _=>some (.Gs neg .sl)
 | .func _ _ _=>some (.Gs neg .fn)
 | .map _ _=>some (.Gs neg .mp)
 |_=>none
def Rr(P:Program)(op:BinOp)(t:TypeId):Option Z6:=
 match P.underlying t with
 |some (.int _)=>some (.int op)
 |some .string=>some (.str op)
 |some u=>match op with
  | .eql=>UI P t false u
  | .neq=>UI P t true u
  |_=>none
 |none=>none
def UJ(p:Z6)(dst:Option Nat):Option (List Ab)->Option E2
 |some args=>some (.op p args dst false none)
 |none=>none
def KN(P:Program)(t:TypeId):List (Nat×Operand)->Option (List (Nat×Nat))
 |[]=>some []
 |(i,_)::rest=>match P.underlying t with
  |some (.struct fs)=>match fs[i]? with
   |some f=>match B1 P f.type,KN P t rest with
    |some n,some r=>some ((f.offset,n)::r)
    |_,_=>none
   |none=>none
  |some (.array len e)=>if i<len then match B1 P e,KN P t rest with
    |some n,some r=>some ((i*n,n)::r)
    |_,_=>none
   else none
  |_=>none
def M9(P:Program)(t:TypeId):Bool:=
 match P.info? t with
 |some i=>match i.zero with
  |some z=>z.cells.size==i.size
  |none=>false
 |none=>false
def WR(P:Program)(t:TypeId):Bool:=
 match P.underlying t with
 |some (.struct fs)=>fs.toList.all λf=>(B1 P f.type).isSome
 |some (.array _ e)=>(B1 P e).isSome
 |_=>false
def UK(o:yd)(dst:Option Nat):Option (List Ab)->Option E2
 |some args=>some (.mem o args dst)
 |none=>none
def Sq(C:Gw)(fid:FuncId)(U:BT)(c:Call)(dst:Option Nat):Option E2:=
 match c.callee with
 | .builtin .len=>match c.argTypes[0]? with
  |some t=>match C.P.underlying t with
   |some .string=>UJ (.len true) dst (Bs C U c.args.toList)
   |some (.slice _)=>UJ (.len false) dst (Bs C U c.args.toList)
   |_=>none
  |none=>none
 | .builtin .append=>match c.argTypes[0]?,c.argTypes[1]?,c.args.toList with
  |some t,some t',[s,x]=>match C.P.underlying t,C.P.underlying t' with
   |some (.slice e),some (.slice _)|some (.slice e),some .string=>match B1 C.P e,KL C.P e with
    |some (n+1),some (b+1)=>if M9 C.P e then match Bs C U [s,x] with
      |some [v,u]=>if L7 C U s then
        (if(dst.map (C.o_ fid)).getD false then some (.Ks (n+1) (b+1) v u dst (Dv U s))
        else if(dst.map (C.aIM fid)).getD false then some (.GW (n+1) (b+1) v u dst (Dv U s))
        else some (.op (.append (n+1) (b+1)) [v,u] dst true (Dv U s)))
       else if(dst.map (C.o_ fid)).getD false then some (.GZ (n+1) (b+1) v u dst) else none
      |_=>none
     else none
    |_,_=>none
   |_,_=>none
  |_,_,_=>none
 | .builtin .copy=>match c.argTypes[0]?,c.argTypes[1]?,c.args.toList with
  |some t,some t',[s,x]=>match C.P.underlying t,C.P.underlying t' with
   |some (.slice e),some (.slice _)|some (.slice e),some .string=>match B1 C.P e with
    |some (n+1)=>UK (.copy (n+1)) dst (Bs C U [s,x])
    |_=>none
   |_,_=>none
  |_,_,_=>none
 | .builtin .clear=>match c.argTypes[0]?,c.args.toList with
  |some t,[s]=>match C.P.underlying t with
   |some (.slice e)=>match B1 C.P e,HB C.P e with
    |some (n+1),some z=>UK (.clear (n+1) z.cells) dst (Bs C U [s])
    |_,_=>none
   |_=>none
  |_,_=>none
 | .builtin .max=>if c.args.size=2 then UJ (.MA true) dst (Bs C U c.args.toList) else none
 | .builtin .min=>if c.args.size=2 then UJ (.MA false) dst (Bs C U c.args.toList) else none
 | .value (.func f)=>if C.Mw f then(match c.args.toList with
  |[s,i,v]=>if L7 C U v then UK .oz dst (Bs C U [s,i,v]) else none
  |_=>none) else if Fl (C.alt fid f)=f then(Bs C U c.args.toList).map λargs=>if C.aCB (C.alt fid f) then .Bz (C.alt fid f) args dst else .call (C.alt fid f) args dst else none
 | .value g=>match Fi C U g,Bs C U c.args.toList with
  |some g,some args=>some (.EJ g args dst)
  |_,_=>none
 |_=>none
def XL(C:Gw)(src dst:TypeId):Option (Option Z6):=
 match C.P.underlying src,C.P.underlying dst with
 |some (.int _),some (.int k)=>some (some (.conv k))
 |some (.int _),some .string=>some (some .i2s)
 |some .string,some .string=>some none
 |some (.slice e),some .string=>match C.P.underlying e with
  |some (.int .u8)=>some (some .XD)
  |_=>none
 |some .string,some (.slice e)=>match C.P.underlying e,B1 C.P e,KL C.P e with
  |some (.int .u8),some 1,some 1=>some (some .s2b)
  |_,_,_=>none
 |_,_=>none
def HU(C:Gw)(U:BT):List Operand->Option (List Ab×List (Nat×List Ab))
 |[]=>some ([],[])
 |x::xs=>match HU C U xs with
  |none=>none
  |some (vs,fz)=>match x,Er C U x with
   | .tmp s,some (.box _ cs _)=>if(fz.map (·.1)).contains s then none else some (.Cd cs::vs,(s,cs)::fz)
   |_,some sl=>match sl.HT with
    |some v=>some (v::vs,fz)
    |none=>none
   |_,none=>none
def GG(C:Gw)(fid:FuncId)(ops:List Oper)(U:BT)(o:Oper):Option E2:=
 match o.op with
 | .move x=>match o.dst with
  |some d=>Lr C U x d (yh ops d)
  |none=>none
 | .assign x=>match o.dst with
  |some d=>Lr C U x d true
  |none=>none
 | .pick c a b=>match Er C U c,o.dst with
  |some (.Qk true),some d=>Lr C U a d false
  |some (.Qk false),some d=>Lr C U b d false
  |_,dst=>UJ .pick dst (Bs C U [c,a,b])
 | .alloc t=>match o.dst,HB C.P t with
  |some d,some z=>match C.kind fid d with
   | .Qt=>if B1 C.P t=some z.cells.length/\z.cells≠[] then some (.pure [(d,.box 0 z.cells (XK z.cells))]) else none
   |_=>Vw C fid t z d
  |_,_=>none
 | .box t x=>match o.dst,Fi C U x with
  |some d,some v=>Vw C fid t v d
  |_,_=>none
 | .build t parts=>match HB C.P t,KN C.P t parts.toList with
  |some z,some ps=>if WR C.P t then UJ (.Dc z.cells ps) o.dst (Bs C U (parts.toList.map (·.2))) else none
  |_,_=>none
 | .buildSlice t len parts=>match C.P.underlying t with
  |some (.slice e)=>match B1 C.P e with
   |some (n+1)=>if parts.toList.map (·.1)=List.range len/\M9 C.P e=true then if len=0/\(o.dst.map (C.o_ fid)).getD false=true then some (.op (.Hi (n+1)) [] o.dst true none) else(Bs C U (parts.toList.map (·.2))).map λargs=> .op (.Cb (n+1)) args o.dst true none else none
   |_=>none
  |_=>none
 | .load t x=>match o.dst with
  |some d=>MB C U t x d (yh ops d)
  |none=>none
 | .store t x y=>match o.dst with
  |none=>Kd C U t x y
  |some _=>none
 | .nilCheck x=>match x,Er C U x,o.dst with
  | .tmp s,some (.box _ _ _),some d=>some (.pure [(d,.FD s 0)])
  |_,some (.FD s k),some d=>some (.pure [(d,.FD s k)])
  |x,_,dst=>UJ .M6 dst (Bs C U [x])
 | .binOp op t x y _=>match Rr C.P op t with
  |some p=>UJ p o.dst (Bs C U [x,y])
  |none=>none
 | .unOp op _ x=>UJ (.un op) o.dst (Bs C U [x])
 | .convert src dst x=>match XL C src dst with
  |some (some .XD)=>(Fi C U x).map λv=> .XD v o.dst
  |some (some .s2b)=>if(o.dst.map (C.o_ fid)).getD false then(Fi C U x).map λv=> .Fq v o.dst else UJ .s2b o.dst (Bs C U [x])
  |some (some p)=>UJ p o.dst (Bs C U [x])
  |_=>none
 | .makeFunc fn first captured=>match o.dst,Bs C U first.toList,HU C U captured.toList with
  |some d,some a,some (b,fz)=>some (.closure fn a b fz d)
  |_,_,_=>none
 | .makeMap _ none=>some (.Oy o.dst)
 | .makeSlice t l c=>match C.P.underlying t with
  |some (.slice e)=>match B1 C.P e,KL C.P e,HB C.P e,Fi C U l,Fi C U c with
   |some (n+1),some (b+1),some z,some l,some c=>some (.make (n+1) (b+1) z.cells l c o.dst)
   |_,_,_,_,_=>none
  |_=>none
 | .insert t m k v| .mapUpdate t m k v=>match C.P.underlying t with
  |some (.map kt _)=>match o.dst,C.P.underlying kt,Bs C U [m,k,v] with
   |none,some .string,some [m,k,v]=>some (.Iw m k v)
   |none,some (.int .i64),some [m,k,v]=>some (.mem .UE [m,k,v] none)
   |_,_,_=>none
  |_=>none
 | .lookup t m k ok=>match C.P.underlying t with
  |some (.map kt e)=>match C.P.underlying kt,HB C.P e,Bs C U [m,k] with
   |some .string,some z,some [m,k]=>some (.M8 z ok m k o.dst)
   |some (.int .i64),some z,some [m,k]=>some (.mem (.ov z ok) [m,k] o.dst)
   |_,_,_=>none
  |_=>none
 | .slice t x (some lo) (some hi) (some mx)=>match C.P.underlying t with
  |some (.slice e)=>match B1 C.P e with
   |some (n+1)=>UK (.sN (n+1)) o.dst (Bs C U [x,lo,hi,mx])
   |_=>none
  |_=>none
 | .makeInterface t x=>match C.P.underlying t with
  |some (.interface _)=>none
  |some _=>UK (.aIL t) o.dst (Bs C U [x])
  |none=>none
 | .mapEntry t m k=>match C.P.underlying t with
  |some (.map kt e)=>match C.P.underlying kt,HB C.P e with
   |some (.int .i64),some z=>UK (.Ph z) o.dst (Bs C U [m,k])
   |some .string,some z=>UK (.XB z) o.dst (Bs C U [m,k])
   |_,_=>none
  |_=>none
 | .entryStore _ m s v=>match o.dst with
  |none=>UK .Lo none (Bs C U [m,s,v])
  |some _=>none
 | .slice t x lo hi none=>match C.P.underlying t with
  |some .string=>UJ (.Ro 0 true lo.isSome hi.isSome) o.dst (Bs C U (x::(lo.toList++hi.toList)))
  |some (.slice e)=>match B1 C.P e with
   |some (n+1)=>if(o.dst.map (C.o_ fid)).getD false then UK (.ou (n+1) lo.isSome hi.isSome) o.dst (Bs C U (x::(lo.toList++hi.toList)))
    else UJ (.Ro (n+1) false lo.isSome hi.isSome) o.dst (Bs C U (x::(lo.toList++hi.toList)))
   |_=>none
  |_=>none
 | .fieldAddr t x f=>match Jc C.P t f,o.dst with
  |some (off,_),some d=>match x,Er C U x with
   | .tmp s,some (.box _ _ _)=>some (.pure [(d,.FD s off)])
   |_,some (.FD s k)=>some (.pure [(d,.FD s (k+off))])
   |x,_=>UJ (.GC off) (some d) (Bs C U [x])
  |_,_=>none
 | .field t x f=>match Jc C.P t f with
  |some (off,sh)=>UJ (.part off sh) o.dst (Bs C U [x])
  |none=>none
 | .indexAddr t x i=>match C.P.underlying t with
  |some (.slice e)=>match B1 C.P e with
   |some (n+1)=>UJ (.Hj (n+1)) o.dst (Bs C U [x,i])
   |_=>none
  |some (.array len e)=>match B1 C.P e with
   |some (n+1)=>if len<=1 then none else UJ (.Vv len (n+1)) o.dst (Bs C U [x,i])
   |_=>none
  |_=>none
 | .index t x i=>match C.P.underlying t with
  |some .string=>UJ .Wg o.dst (Bs C U [x,i])
  |some (.array len e)=>match B1 C.P e,FL C.P e with
   |some (n+1),some sh=>UJ (.aDN len (n+1) sh) o.dst (Bs C U [x,i])
   |_,_=>none
  |_=>none
 | .extract x i=>UJ (.ext i) o.dst (Bs C U [x])
 | .call c=>Sq C fid U c o.dst
 |_=>none
def BT.E3(U:BT):List (Nat×ER)->BT
 |[]=>U
 |(s,x)::ws=>BT.E3 (U.set s x) ws
def BT.put(U:BT)(dst:Option Nat)(x:ER):BT:=
 match dst with
 |some d=>U.set d x
 |none=>U
def BT.DU(U:BT):Option (Nat×Ab)->BT
 |some (s,v)=>U.set s (.val v)
 |none=>U
def XM(n:Nat)(cs:List Ab):List Ab:=(List.range n).map λi=>cs.getD i .nilIface
def XN(cs:List Ab)(off n:Nat)(vs:List Ab):List Ab:=cs.take off++vs++cs.drop (off+n)
def Tm(owned:List Nat)(off n:Nat)(BU:Bool):List Nat:=
 let rest:=owned.filter λo=> !(off<=o&&o<off+n)
 if BU then off::rest else rest
def E2.Na(C:Gw)(U:BT)(K:BT->IT):E2->IT
 | .pure ws=>K (U.E3 ws)
 | .op p args dst BU e=> .op p args λv=>K ((U.DU e).put dst (if BU then .BU v else .val v))
 | .box n v d=> .cells n v λcs=>K (U.set d (.box 0 (XM n cs) []))
 | .closure fn a b fz d=>K ((U.E3 (fz.map λ(s,cs)=>(s,.val (.Cd cs)))).set d (.val (.func fn a b)))
 | .Og s off n v BU e ver cells owned=> .cells n v λvs=>K ((U.DU e).set s (.box (ver+1) (XN cells off n (XM n vs)) (Tm owned off n BU)))
 | .load n p dst=> .load n p λv=>K (U.put dst (.val v))
 | .store n p v=> .store n p v (K U)
 | .alloc n v dst=> .alloc n v λp=>K (U.put dst (.val p))
 | .call f args dst=> .call f args λr=>K (U.put dst (if C.KK f then .BU r else .val r))
 | .EJ g args dst=> .EJ g args λr=>K (U.put dst (.val r))
 | .Bz f args dst=> .Bz f args λr=>K (U.put dst (.val r))
 | .Oy dst=> .Oy λm=>K (U.put dst (.val m))
 | .Iw m k v=> .Iw m k v (K U)
 | .M8 z ok m k dst=> .M8 z ok m k λv=>K (U.put dst (.val v))
 | .make z b zero l c dst=> .make z b zero l c λv=>K (U.put dst (.val v))
 | .Ks z b s x dst e=> .Ks z b s x λv=>K ((U.DU e).put dst (.val v))
 | .GZ z b s x dst=> .GZ z b s x λv=>K (U.put dst (.val v))
 | .GW z b s x dst e=> .GW z b s x λv=>K ((U.DU e).put dst (.BU v))
 | .Fq s dst=> .Fq s λv=>K (U.put dst (.val v))
 | .XD v dst=> .UF v λv=> .op .XD [v] λu=>K (U.put dst (.val u))
 | .mem o args dst=> .mem o args λv=>K (U.put dst (if o.fO then .undef else .val v))
def E2.news:E2->List Nat
 | .pure ws=>ws.filterMap λ(s,x)=>match x with| .box 0 _ _=>some s|_=>none
 | .box _ _ d=>[d]
 | .closure _ _ _ fz _=>fz.map (·.1)
 |_=>[]
inductive aIO where
 |OA (run:Bool)
 |ask (sP:Nat) (v:Ab) (want:Bool)
 |bad
def JE(ops:List Oper)(U:BT)(o:Oper):aIO:=
 match o.guard with
 |none=> .OA true
 |some (j,want)=>match(ops[j]?).bind (·.dst) with
  |some s=>match U.at s with
   | .Qk b=> .OA (b==want)
   | .val v=> .ask s v want
   | .skip=> .OA false
   |_=> .bad
  |none=> .bad
def yi(C:Gw)(fid:FuncId)(ops:List Oper)(U:BT)(o:Oper)(K:BT->IT):IT:=
 match GG C fid ops U o with
 |some r=>r.Na C (U.drop r.news) K
 |none=> .fail
def UL(C:Gw)(fid:FuncId)(ops:List Oper)(U:BT)(o:Oper)(K:BT->IT):IT:=
 match JE ops U o with
 | .OA true=>yi C fid ops U o K
 | .OA false=>K (U.put o.dst .skip)
 | .ask s v want=>
  let t:=if want then yi C fid ops (U.set s (.Qk true)) o K else K (BT.put (U.set s (.Qk true)) o.dst .skip)
  let e:=if want then K (BT.put (U.set s (.Qk false)) o.dst .skip) else yi C fid ops (U.set s (.Qk false)) o K
  .A0 v t e
 | .bad=> .fail
def yM(C:Gw)(fid:FuncId)(ops:List Oper):List Oper->BT->(BT->IT)->IT
 |[],U,K=>K U
 |o::rest,U,K=>UL C fid ops U o λU=>yM C fid ops rest U K
end Go.Am
end
section
namespace Go.Am
def Oper.Wh(o:Oper):List Nat:=o.after.toList.filterMap λe=>if Region.binds .any e then some e.on else none
def bit(i:Nat):Nat:=2^i
def L8(D8:List Nat):List Oper->List Nat
 |[]=>D8
 |o::rest=>L8 (D8++[(Oper.Wh o).foldl (λm e=>m|||bit e|||D8.getD e 0) 0]) rest
def XO(ops:List Oper):List Nat:=L8 [] ops
def EK(an:List Nat)(i j:Nat):Bool:=(an.getD j 0).testBit i
def aCC(o:Oper):Bool:=
 match o.op with
 | .call c=>(match c.callee with| .builtin .copy| .builtin .clear=>true| .builtin _=>false|_=>true)
 | .store _ _ _| .insert _ _ _ _| .mapUpdate _ _ _ _| .makeMap _ _| .makeSlice _ _ _| .mapEntry _ _ _| .entryStore _ _ _ _=>true
 |_=>false
def XP(all:List Oper)(D8:List Nat):List Oper->List Nat
 |[]=>D8
 |o::rest=>XP all (D8++[(Oper.Wh o).foldl (λm e=>Nat.max m (D8.getD e 0+(match all[e]? with|some x=>if aCC x then 1 else 0|none=>0))) 0]) rest
def ž(ops:List Oper):List Nat:=
 let st:=XP ops [] ops
 let idx:=List.range ops.length
 let Td:=λi=>match ops[i]? with|some o=>aCC o|none=>false
 (List.range (ops.length+1)).flatMap λs=>(idx.filter λi=>st.getD i 0==s&& !Td i)++(idx.filter λi=>st.getD i 0==s&&Td i)
structure FP where
 rs:List Nat
 wf:List Nat
 hl:Bool
 Td:Bool
 news:List Nat
 lr:List Nat
 Kh:Bool
 deriving Inhabited
def Ls(xs:List Operand):List Nat:=xs.filterMap λ| .tmp t=>some t|_=>none
def Pk(C:Gw)(U:BT)(x:Operand):Option Nat:=
 match GF C U x with
 |some (.Qt s _ _ _ _)=>some s
 |_=>none
def II(C:Gw)(U:BT)(o:Oper):List Nat:=
 match o.op with
 | .load _ x=>(Pk C U x).toList
 | .store _ x _=>(Pk C U x).toList
 | .makeFunc _ _ captured=>Ls captured.toList
 |_=>[]
def E2.wf:E2->List Nat
 | .pure ws=>ws.map (·.1)
 | .op _ _ dst _ a=>dst.toList++(a.map (·.1)).toList
 | .box _ _ d=>[d]
 | .closure _ _ _ fz d=>d::fz.map (·.1)
 | .Og s _ _ _ _ a _ _ _=>s::(a.map (·.1)).toList
 | .load _ _ dst| .alloc _ _ dst| .call _ _ dst| .EJ _ _ dst| .Bz _ _ dst| .Oy dst| .M8 _ _ _ _ dst| .make _ _ _ _ _ dst| .Fq _ dst| .XD _ dst| .GZ _ _ _ _ dst| .mem _ _ dst=>dst.toList
 | .Ks _ _ _ _ dst a| .GW _ _ _ _ dst a=>dst.toList++(a.map (·.1)).toList
 | .store _ _ _| .Iw _ _ _=>[]
def E2.hl:E2->Bool
 | .load _ _ _| .M8 _ _ _ _ _=>true
 |_=>false
def E2.Td:E2->Bool
 | .store _ _ _| .alloc _ _ _| .call _ _ _| .EJ _ _ _| .Oy _| .Iw _ _ _| .make _ _ _ _ _ _| .Ks _ _ _ _ _ _| .Fq _ _| .XD _ _| .GZ _ _ _ _ _| .GW _ _ _ _ _ _| .mem _ _ _=>true
 |_=>false
def FZ(ops:List Oper)(o:Oper):List Nat:=
 match o.guard with
 |none=>[]
 |some (j,_)=>((ops[j]?).bind (·.dst)).toList
def WS(xs:List ER):List Nat:=xs.filterMap λ| .FD t _=>some t|_=>none
def E2.yN:E2->List Nat
 | .pure ws=>WS (ws.map (·.2))
 |_=>[]
def E2.Kh(U:BT)(r:E2):Bool:=
 Oh U r.news&&match r with
  | .load _ _ (some d)=>decide (d<U.length)
  | .load _ _ none| .M8 _ _ _ _ _| .closure _ _ _ (_::_) _=>false
  |_=>true
def Wi(C:Gw)(ops:List Oper)(U:BT)(o:Oper)(r:Option E2):FP:=
 match r with
 |none=>{rs:=FZ ops o,wf:=o.dst.toList,hl:=false,Td:=false,news:=[],lr:=WS (o.dst.toList.map U.at),Kh:=true}
 |some r=>{rs:=FZ ops o++Ls o.op.operands.toList++II C U o,wf:=r.wf++o.dst.toList,hl:=r.hl,Td:=r.Td,news:=r.news,lr:=WS ((r.wf++o.dst.toList).map U.at)++r.yN,Kh:=r.Kh U}
def Vx(a b:List Nat):Bool:=a.any λx=>b.contains x
def FP.apart(x y:FP):Bool:= !Vx x.wf (y.rs++y.wf)&& !Vx y.wf x.rs&& !Vx x.lr y.news&& !Vx y.lr x.news
def Sr(x y:FP):Bool:=x.Kh&&y.Kh&&x.apart y&& !(x.Td&&y.Td)&& !(x.Td&&y.hl)
def XQ(n:Nat)(an:List Nat)(a:List (Nat×FP)):Bool:=
 go a&&(List.range n).all (λi=>(a.map (·.1)).contains i)
where
 go:List (Nat×FP)->Bool
  |[]=>true
  |(i,f)::rest=>rest.all (λ(j,g)=>i != j&& !EK an j i&&(EK an i j||Sr f g))&&go rest
structure Lk where
 idx:Nat
 n:Option Nat
 p:Ab
 v:Ab
def Tn(an:List Nat)(i:Nat):List Lk->IT->IT
 |[],t=>t
 |f::fs,t=>if EK an f.idx i then Tn an i fs t else .load f.n f.p λv=> .same f.v v (Tn an i fs t)
def NU(i:Nat)(r:E2)(U:BT)(fl:List Lk):List Lk:=
 match r with
 | .load n p (some d)=>match U.at d with
  | .val v=>{idx:=i,n,p,v}::fl
  |_=>fl
 |_=>fl
def To(ops:List Oper)(i:Nat):Bool:=ops.any λo=>match o.guard with|some (j,_)=>j==i|none=>false
def yO(d:Option Nat)(U:BT)(K:BT->IT):IT:=
 match d with
 |none=>K U
 |some d=>match U.at d with
  | .val v=> .A0 v (K (U.set d (.Qk true))) (K (U.set d (.Qk false)))
  |_=>K U
def Ss(C:Gw)(fid:FuncId)(ops:List Oper)(an:List Nat):List Nat->List (Nat×FP)->List Lk->BT->(BT->IT)->IT
 |[],a,_,U,K=>if XQ ops.length an a.reverse then K U else .fail
 |i::rest,a,fl,U,K=>
  match ops[i]? with
  |none=> .fail
  |some o=>match JE ops U o with
   | .OA true=>match GG C fid ops U o with
    |none=> .fail
    |some r=>r.Na C (U.drop r.news) λc=>
     let next:=yO (if To ops i then o.dst else none) c λb=>Ss C fid ops an rest ((i,Wi C ops U o (some r))::a) (NU i r c fl) b K
     if r.Td then Tn an i fl next else next
   | .OA false=>Ss C fid ops an rest ((i,Wi C ops U o none)::a) fl (U.put o.dst .skip) K
   |_=> .fail
def FO(ops:List Oper)(o:Oper):List Nat:=
 o.dst.toList++match o.op with
  | .move (.tmp s)=>(match o.dst with|some d=>if yh ops d then[s] else[]|none=>[])
  | .assign (.tmp s)=>[s]
  | .store _ _ (.tmp s)=>[s]
  | .call c=>(match c.callee with| .builtin .append=>Ls c.args.toList|_=>[])
  | .makeFunc _ _ captured=>Ls captured.toList
  |_=>[]
def De:Code->List Nat
 | .region _ ops _=>ops.toList.flatMap (FO ops.toList)
 | .seq a b=>De a++De b
 | .cond _ a b=>De a++De b
 | .block _ b=>De b
 | .loop b=>De b
 | .scope b=>De b
 |_=>[]
def Cp:Code->List Nat
 | .region _ ops _=>ops.toList.flatMap (FZ ops.toList)
 | .seq a b=>Cp a++Cp b
 | .cond (.tmp s) a b=>s::(Cp a++Cp b)
 | .cond _ a b=>Cp a++Cp b
 | .block _ b=>Cp b
 | .loop b=>Cp b
 | .scope b=>Cp b
 |_=>[]
def BT.clear(U:BT):List Nat->BT
 |[]=>U
 |s::ss=>BT.clear (U.set s .undef) ss
def Hl:Code->Option Nat
 | .region id _ _=>some id
 | .seq a b=>(Hl a).orElse λ_=>Hl b
 | .cond _ a b=>(Hl a).orElse λ_=>Hl b
 | .block _ b| .loop b| .scope b=>Hl b
 |_=>none
def XR(U:BT):List (Nat×Sh)->Option (List Ab)
 |[]=>some []
 |(s,sh)::l=>
  let v:=match sh,U.at s with
   | .val,x=>x.HT
   | .BU,.BU v=>some v
   | .box n ow,.box _ cs Pe=>if cs.length=n/\ow.all (Pe.contains ·) then some (.agg cs) else none
   |_,_=>none
  match v,XR U l with
  |some v,some vs=>some (v::vs)
  |_,_=>none
def cB:ER->Nat
 | .box ver _ _=>ver
 |_=>0
def Ki(vs:List Ab):List (Nat×Sh)->Nat->BT->(BT->IT)->IT
 |[],_,U,K=>K U
 |(s,.val)::l,i,U,K=>Ki vs l (i+1) (U.set s (.val (vs.getD i .nilIface))) K
 |(s,.BU)::l,i,U,K=>Ki vs l (i+1) (U.set s (.BU (vs.getD i .nilIface))) K
 |(s,.box n ow)::l,i,U,K=> .cells n (vs.getD i .nilIface) λcs=>Ki vs l (i+1) (U.set s (.box (cB (U.at s)+1) (XM n cs) ow)) K
def sQ(U:BT)(a:BT)(l:List (Nat×Sh)):Bool:=
 (List.range U.length).all λs=>match U.at s with
  | .box ver _ _=>(l.map (·.1)).contains s||(match a.at s with| .box GH _ _=>GH==ver|_=>false)
  | .FD _ _=>(l.map (·.1)).contains s||(match a.at s with| .FD _ _=>true|_=>false)
  |_=>true
def Dw(b:BT)(l:List (Nat×Sh))(x:GD)(a:BT):IT:=
 if sQ b a l then match XR a l with
  |some vs=> .ret x vs
  |none=> .fail
 else .fail
def yj(l:List (Nat×Sh))(ws:List Nat)(U:BT):Bool:=l.all λ(s,_)=>ws.contains s||(match U.at s with| .box _ _ _=>true|_=>false)
def fQ(ops:List Oper):Bool:=ops.zipIdx.all λ(o,i)=>(Oper.Wh o).all λe=>decide (e<i)
def Tp(C:Gw)(fid:FuncId)(ops:List Oper)(draw:Bool)(U:BT)(K:BT->IT):IT:=
 if draw then(if fQ ops then Ss C fid ops (XO ops) (ž ops) [] [] U K else .fail) else yM C fid ops ops U K
def fR(key:Nat)(U:BT)(ws:List Nat)(l:List (Nat×Sh))(t:(GD->BT->IT)->IT)(K:GD->BT->IT):IT:=
 let b:=U.clear ws
 if yj l ws U then .GY key (t λx a=>Dw b l x a) λx vs=>Ki vs l 0 b λa=>K x a else .fail
def aCD(K:GD->BT->IT):GD->BT->IT
 | .normal,_=> .fail
 | .exit i,U=>K (.exit i) U
 | .ret,U=>K .ret U
def GI(C:Gw)(fid:FuncId):Code->BT->(GD->BT->IT)->IT
 | .skip,U,K=>K .normal U
 | .region id ops draw,U,K=>match C.aCA fid id with
  |none=>Tp C fid ops.toList draw U (K .normal)
  |some l=>fR (200000+id) U (ops.toList.flatMap (FO ops.toList)++ops.toList.flatMap (FZ ops.toList)) l (λK=>Tp C fid ops.toList draw U (K .normal)) K
 | .seq a b,U,K=>GI C fid a U λx d=>match x with
  | .normal=>GI C fid b d K
  | .exit i=>K (.exit i) d
  | .ret=>K .ret d
 | .cond c a b,U,K=>match c,Er C U c with
  |_,some (.Qk true)=>GI C fid a U K
  |_,some (.Qk false)=>GI C fid b U K
  | .tmp s,some (.val v)=>match C.aCz fid s with
   |none=> .A0 v (GI C fid a (U.set s (.Qk true)) K) (GI C fid b (U.set s (.Qk false)) K)
   |some l=>fR (100000+s) U (s::(De a++De b++Cp a++Cp b)) l (λK=> .A0 v (GI C fid a (U.set s (.Qk true)) K) (GI C fid b (U.set s (.Qk false)) K)) K
  |_,_=> .fail
 | .block id b,U,K=>GI C fid b U λx d=>match x with
  | .normal=>K .normal d
  | .exit i=>if i=id then K .normal d else K (.exit i) d
  | .ret=>K .ret d
 | .loop b,U,K=>
  let l:=C.aDP fid ((Hl b).getD 0)
  let ws:=De b++Cp b
  let f:=U.clear ws
  if yj l ws U then match XR U l with
   |none=> .fail
   |some init=> .loop ((Hl b).getD 0) init (λvs=>Ki vs l 0 f λe=>GI C fid b e λx d=>Dw f l x d) λx vs=>Ki vs l 0 f λd=>aCD K x d
  else .fail
 | .exit id,U,K=>K (.exit id) U
 | .ret,U,K=>K .ret U
 | .scope b,U,K=>GI C fid b U K
 | .label _,U,K=>K .normal U
 |_,_,_=> .fail
def Hd(C:Gw)(U:BT):List ResultVar->List Ab->(List Ab->IT)->IT
 |[],D8,K=>K D8.reverse
 | .tmp t::rs,D8,K=>match(U.at t).HT with
  |some v=>Hd C U rs (v::D8) K
  |none=> .fail
 | .cell a t::rs,D8,K=>match FL C.P t,GF C U (.tmp a) with
  |some none,some (.Qt _ o _ cs _)=>if o<cs.length then Hd C U rs (cs.getD o .nilIface::D8) K else .fail
  |some (some n),some (.Qt _ o _ cs _)=>if o+n<=cs.length then Hd C U rs (.agg ((cs.drop o).take n)::D8) K else .fail
  |some n,some (.ptr p)=> .load n p λv=>Hd C U rs (v::D8) K
  |_,_=> .fail
def Rs(U:BT):List ResultVar->Bool
 |[.tmp t]=>match U.at t with| .BU _=>true|_=>false
 |_=>false
def yP(C:Gw)(U:BT):List (Nat×Nat)->IT->IT
 |[],t=>t
 |(s,off)::l,t=>match(U.at s).HT with
  |some p=> .Ja off p (yP C U l t)
  |none=> .fail
def Qv:List Ab->List Ab->(List Ab->IT)->IT
 |[],D8,K=>K D8.reverse
 |v::vs,D8,K=> .UF v λv=>Qv vs (v::D8) K
def Vy:List Ab->IT
 |[v]=> .ret .ret [v]
 |vs=> .ret .ret [.tuple vs]
def nD(C:Gw)(fid:FuncId)(fn:Func)(U:BT):IT:=
 if C.KK fid&& !Rs U fn.results.toList then .fail
 else yP C U (C.yg fid) (Hd C U fn.results.toList [] λvs=>if C.yf fid then Qv vs [] Vy else Vy vs)
def yk(C:Gw)(fid:FuncId)(fn:Func)(args:List Ab):IT:=
 match fn.body with
 |none=> .fail
 |some c=>GI C fid c (args.map .val++List.replicate (fn.ntmps-args.length) .undef) λx U=>match x with
  | .normal=>nD C fid fn U
  | .exit _=> .fail
  | .ret=>nD C fid fn U
def aIP(C:Gw)(fid:FuncId)(args:List Ab):IT:=
 match C.P.funcs[Fl fid]? with
 |some fn=>if fn.name== "runtime.NumGoroutine" then .fail else yk C fid fn args
 |none=> .fail
def Cf(C:Gw)(fid:FuncId)(args:List Ab):IT:=
 match C.aDQ fid with
 |some p=>p args
 |none=>aIP C fid args
abbrev g(l:List Ab)(i:Nat):Ab:=l.getD i .nilIface
abbrev I(n:Int):Ab:= .int .i64 n
abbrev S(s:Ah):Ab:= .str s
abbrev tt:Ab:= .bool true
abbrev ff:Ab:= .bool false
abbrev Gw.run(C:Gw):Nat->IT->Ai->Option KE:=IT.run (Cf C)
end Go.Am
end
end
section
namespace Go.Am
def IT.Kt{fn:FuncId->List Ab->IT}{rec aIQ:IT->Ai->Option KE}(hr:∀t h r,rec t h=some r->aIQ t h=some r):
  ∀(t:IT) (h:Ai) (r:KE),IT.step fn rec t h=some r->IT.step fn aIQ t h=some r:=by
 intro t;induction t with
 |ret x vs=>intro h r d;simpa[IT.step] using d
 |fail=>intro h r d;simp[IT.step] at d
 |op o args k ih=>
  intro h r d;simp only[IT.step] at d⊢;split at d;.exact ih _ _ _ d
  .cases d
 |cells n v k ih=>
  intro h r d;simp only[IT.step] at d⊢;split at d;.rename_i hc;rw[Ae hc];exact ih _ _ _ d
  .cases d
 |A0 c t e i q=>
  intro h r d;simp only[IT.step] at d⊢;split at d;.exact i _ _ d
  .exact q _ _ d
  .cases d
 |load n p k ih=>
  intro h r d;simp only[IT.step] at d⊢;split at d;.exact ih _ _ _ d
  .cases d
 |store n p v k ih=>
  intro h r d;simp only[IT.step] at d⊢;split at d;.exact ih _ _ d
  .cases d
 |alloc n v k ih=>
  intro h r d;simp only[IT.step] at d⊢;split at d;.exact ih _ _ _ d
  .cases d
 |call f args k ih=>
  intro h r d;simp only[IT.step] at d⊢;split at d;.rename_i h1;rw[hr _ _ _ h1];exact ih _ _ _ d
  .cases d
 |EJ g args k ih=>
  intro h r d;simp only[IT.step] at d⊢;split at d
  .rename_i f a ht;split at d;.rename_i h1;simp only[hr _ _ _ h1];exact ih _ _ _ d
   .cases d
  .cases d
 |Bz f args k ih=>
  intro h r d;simp only[IT.step] at d⊢;split at d
  .rename_i Jz;rw[Ae Jz];split at d
   .rename_i h1;rw[hr _ _ _ h1];split at d;.rename_i xc;simp only[xc,BN];exact ih _ _ _ d
    .cases d
   .cases d
  .cases d
 |loop key init body k l j=>
  intro h r d;simp only[IT.step] at d⊢;split at d;.rename_i h1;rw[l _ _ _ h1];exact hr _ _ _ d
  .rename_i x vs h1 hne hx;rw[l _ _ _ hx];cases x<;>first|exact j _ _ _ _ d|exact absurd rfl hne
  .cases d
 |GY key t k i j=>
  intro h r d;simp only[IT.step] at d⊢;split at d;.rename_i h1;rw[i _ _ h1];exact j _ _ _ _ d
  .cases d
 |same a b k ih=>
  intro h r d;simp only[IT.step] at d⊢;split at d;.rename_i hc;rw[Ae hc];exact ih _ _ d
  .cases d
 |Oy k ih=>intro h r d;simp only[IT.step] at d⊢;exact ih _ _ _ d
 |Iw m key v k ih=>
  intro h r d;simp only[IT.step] at d⊢;split at d;.exact ih _ _ d
  .cases d
 |M8 z ok m key k ih=>
  intro h r d;simp only[IT.step] at d⊢;split at d;.exact ih _ _ _ d
  .cases d
 |make size bytes zero len cap k ih=>
  intro h r d;simp only[IT.step] at d⊢;split at d;.exact ih _ _ _ d
  .cases d
 |Ks size bytes s x k ih=>
  intro h r d;simp only[IT.step] at d⊢;split at d;.exact ih _ _ _ d
  .cases d
 |Fq s k ih=>
  intro h r d;simp only[IT.step] at d⊢;split at d;.exact ih _ _ _ d
  .cases d
 |UF v k ih=>
  intro h r d;simp only[IT.step] at d⊢;split at d;.exact ih _ _ _ d
  .cases d
 |Ja off p k ih=>
  intro h r d;simp only[IT.step] at d⊢;split at d;.exact ih _ _ d
  .cases d
 |GZ size bytes s x k ih=>
  intro h r d;simp only[IT.step] at d⊢;split at d;.exact ih _ _ _ d
  .cases d
 |GW size bytes s x k ih=>
  intro h r d;simp only[IT.step] at d⊢;split at d;.exact ih _ _ _ d
  .cases d
 |mem o args k ih=>
  intro h r d;simp only[IT.step] at d⊢;split at d;.exact ih _ _ _ d
  .cases d
 |yJ f args k ih=>
  intro h r d;simp only[IT.step] at d⊢;split at d
  .rename_i h1;rw[hr _ _ _ h1];split at d;.rename_i xc;simp only[xc,BN];exact ih _ _ _ d
   .cases d
  .cases d
def IT.yl{fn:FuncId->List Ab->IT}:∀(n:Nat) (t:IT) (h:Ai) (r:KE),IT.run fn n t h=some r->IT.run fn (n+1) t h=some r:=by
 intro n;induction n with
 |zero=>intro t h r a;simp[IT.run] at a
 |succ n ih=>intro t h r a;exact IT.Kt (λt h r=>ih t h r) t h r a
def IT.IL{fn:FuncId->List Ab->IT}{n m:Nat}(hnm:n<=m){t:IT}{h:Ai}{r:KE}(a:IT.run fn n t h=some r):IT.run fn m t h=some r:=by
 induction hnm with
 |refl=>exact a
 |step _ ih=>exact IT.yl _ _ _ _ ih
abbrev Lt:=GD->List Ab->Ai->Prop
def W(C:Gw)(t:IT)(Q:Lt)(h:Ai):Prop:=∃n x vs h',C.run n t h=some (x,vs,h')/\Q x vs h'
section
variable{C:Gw}{Q:Lt}{h:Ai}
def W.mono{t:IT}{Q':Lt}(hw:W C t Q h)(hq:∀x vs h',Q x vs h'->Q' x vs h'):W C t Q' h:=
 let⟨n,x,vs,h',hr,q⟩:=hw;⟨n,x,vs,h',hr,hq _ _ _ q⟩
def aCE{x:GD}{vs:List Ab}(hq:Q x vs h):W C (.ret x vs) Q h:=⟨1,x,vs,h,rfl,hq⟩
def C6{t:IT}(a:∃n x vs h',IT.step (Cf C) (C.run n) t h=some (x,vs,h')/\Q x vs h'):W C t Q h:=
 let⟨n,x,vs,h',hr,q⟩:=a;⟨n+1,x,vs,h',hr,q⟩
def W.succ{t:IT}(a:W C t Q h):∃n x vs h',IT.step (Cf C) (C.run n) t h=some (x,vs,h')/\Q x vs h':=by
 obtain⟨n,x,vs,h',hr,q⟩:=a;cases n with
 |zero=>simp[Gw.run,IT.run] at hr
 |succ n=>exact⟨n,x,vs,h',hr,q⟩
def aIR{o:Z6}{args:List Ab}{k:Ab->IT}{v:Ab}(hv:AE o args=some v)(hw:W C (k v) Q h):W C (.op o args k) Q h:=by obtain⟨n,x,vs,h',hr,q⟩:=hw.succ;exact C6 ⟨n,x,vs,h',by simp only[IT.step,hv];exact hr,q⟩
def yQ{n:Nat}{v:Ab}{k:List Ab->IT}(hv:v.cells.length=n)(hw:W C (k v.cells) Q h):W C (.cells n v k) Q h:=by obtain⟨m,x,vs,h',hr,q⟩:=hw.succ;exact C6 ⟨m,x,vs,h',by simp only[IT.step,hv,BN];exact hr,q⟩
def yR{b:Bool}{t e:IT}(ht:b=true->W C t Q h)(he:b=false->W C e Q h):W C (.A0 (.bool b) t e) Q h:=by
 cases b with
 |true=>obtain⟨m,x,vs,h',hr,q⟩:=(ht rfl).succ;exact C6 ⟨m,x,vs,h',by simp only[IT.step];exact hr,q⟩
 |false=>obtain⟨m,x,vs,h',hr,q⟩:=(he rfl).succ;exact C6 ⟨m,x,vs,h',by simp only[IT.step];exact hr,q⟩
def ym{n:Option Nat}{p v:Ab}{k:Ab->IT}(hv:Bp h n p=some v)(hw:W C (k v) Q h):W C (.load n p k) Q h:=by obtain⟨m,x,vs,h',hr,q⟩:=hw.succ;exact C6 ⟨m,x,vs,h',by simp only[IT.step,hv];exact hr,q⟩
def yS{n:Nat}{p v:Ab}{k:IT}{h1:Ai}(hv:Dd h n p v=some h1)(hw:W C k Q h1):W C (.store n p v k) Q h:=by obtain⟨m,x,vs,h',hr,q⟩:=hw.succ;exact C6 ⟨m,x,vs,h',by simp only[IT.step,hv];exact hr,q⟩
def yT{n:Nat}{v:Ab}{k:Ab->IT}(hv:v.cells.length=n)(hw:W C (k (.ptr (some (h.length,0)))) Q (h++[.cells v.cells])):W C (.alloc n v k) Q h:=by obtain⟨m,x,vs,h',hr,q⟩:=hw.succ;exact C6 ⟨m,x,vs,h',by simp only[IT.step,XF,hv,BN];exact hr,q⟩
def yn{a b:Ab}{k:IT}(hv:Ab.beq a b=true)(hw:W C k Q h):W C (.same a b k) Q h:=by obtain⟨m,x,vs,h',hr,q⟩:=hw.succ;exact C6 ⟨m,x,vs,h',by simp only[IT.step,hv,BN];exact hr,q⟩
def yo{k:Ab->IT}(hw:W C (k (.map (some h.length))) Q (h++[.map []])):W C (.Oy k) Q h:=by obtain⟨m,x,vs,h',hr,q⟩:=hw.succ;exact C6 ⟨m,x,vs,h',by simp only[IT.step];exact hr,q⟩
def yp{m key v:Ab}{k:IT}{h1:Ai}(hv:R2 h m key v=some h1)(hw:W C k Q h1):W C (.Iw m key v k) Q h:=by obtain⟨n,x,vs,h',hr,q⟩:=hw.succ;exact C6 ⟨n,x,vs,h',by simp only[IT.step,hv];exact hr,q⟩
def yq{z:Ab}{ok:Bool}{m key v:Ab}{k:Ab->IT}(hv:P6 h z ok m key=some v)(hw:W C (k v) Q h):W C (.M8 z ok m key k) Q h:=by obtain⟨n,x,vs,h',hr,q⟩:=hw.succ;exact C6 ⟨n,x,vs,h',by simp only[IT.step,hv];exact hr,q⟩
def yr{size bytes:Nat}{zero:List Ab}{len cap v:Ab}{k:Ab->IT}{h1:Ai}(hv:XG h size bytes zero len cap=some (h1,v))(hw:W C (k v) Q h1):W C (.make size bytes zero len cap k) Q h:=by obtain⟨n,x,vs,h',hr,q⟩:=hw.succ;exact C6 ⟨n,x,vs,h',by simp only[IT.step,hv];exact hr,q⟩
def yU{size bytes:Nat}{s x v:Ab}{k:Ab->IT}{h1:Ai}(hv:Lp h size bytes s x=some (h1,v))(hw:W C (k v) Q h1):W C (.Ks size bytes s x k) Q h:=by obtain⟨n,x,vs,h',hr,q⟩:=hw.succ;exact C6 ⟨n,x,vs,h',by simp only[IT.step,hv];exact hr,q⟩
def XS{s v:Ab}{k:Ab->IT}{h1:Ai}(hv:JD h s=some (h1,v))(hw:W C (k v) Q h1):W C (.Fq s k) Q h:=by obtain⟨n,x,vs,h',hr,q⟩:=hw.succ;exact C6 ⟨n,x,vs,h',by simp only[IT.step,hv];exact hr,q⟩
def aCF{u v:Ab}{k:Ab->IT}{h1:Ai}(hv:L6 h u=some (h1,v))(hw:W C (k v) Q h1):W C (.UF u k) Q h:=by obtain⟨n,x,vs,h',hr,q⟩:=hw.succ;exact C6 ⟨n,x,vs,h',by simp only[IT.step,hv];exact hr,q⟩
def yV{off:Nat}{p:Ab}{k:IT}{h1:Ai}(hv:Lq h off p=some h1)(hw:W C k Q h1):W C (.Ja off p k) Q h:=by obtain⟨n,x,vs,h',hr,q⟩:=hw.succ;exact C6 ⟨n,x,vs,h',by simp only[IT.step,hv];exact hr,q⟩
def yt{size bytes:Nat}{s x v:Ab}{k:Ab->IT}{h1:Ai}(hv:Hk h size bytes s x=some (h1,v))(hw:W C (k v) Q h1):W C (.GZ size bytes s x k) Q h:=by obtain⟨n,x,vs,h',hr,q⟩:=hw.succ;exact C6 ⟨n,x,vs,h',by simp only[IT.step,hv];exact hr,q⟩
def cC{size bytes:Nat}{s x v:Ab}{k:Ab->IT}(hv:R4 h size bytes s x=some v)(hw:W C (k v) Q h):W C (.GW size bytes s x k) Q h:=by obtain⟨n,x,vs,h',hr,q⟩:=hw.succ;exact C6 ⟨n,x,vs,h',by simp only[IT.step,hv];exact hr,q⟩
def aCG{o:yd}{args:List Ab}{v:Ab}{k:Ab->IT}{h1:Ai}(hv:Ey o h args=some (h1,v))(hw:W C (k v) Q h1):W C (.mem o args k) Q h:=by obtain⟨n,x,vs,h',hr,q⟩:=hw.succ;exact C6 ⟨n,x,vs,h',by simp only[IT.step,hv];exact hr,q⟩
def Ev(C:Gw)(f:FuncId)(args:List Ab)(h:Ai)(R:Ab->Ai->Prop):Prop:=
 W C (Cf C f args) (λx vs h'=>x= .ret/\∃r,vs=[r]/\R r h') h
def Ev.mono{f:FuncId}{args:List Ab}{R R':Ab->Ai->Prop}(hw:Ev C f args h R)(hr:∀r h',R r h'->R' r h'):Ev C f args h R':=
 W.mono hw λ_ _ _ ⟨hx,r,hv,hR⟩=>⟨hx,r,hv,hr _ _ hR⟩
def yu{f:FuncId}{args:List Ab}{k:Ab->IT}(hc:Ev C f args h λr h1=>W C (k r) Q h1):W C (.call f args k) Q h:=by obtain⟨n,x,vs,h1,hr,hx,r,hv,m,x',Iy,h',Ib,q⟩:=hc;subst hx;subst hv;refine C6 ⟨max n m,x',Iy,h',?_,q⟩;have a:=IT.IL (Iu n m) hr;have h2:=IT.IL (Bw (HP n m) (F6 _)) Ib;simp only[IT.step];simp only[Gw.run] at*;rw[a];exact h2
def ſ{f:FuncId}{args:List Ab}{k:Ab->IT}(ha:args.all Ab.NI=true)(hc:Ev C f args [] λr _=>r.NI=true/\W C (k r) Q h):W C (.Bz f args k) Q h:=by obtain⟨n,x,vs,h1,hr,hx,r,hv,Jz,m,x',Iy,h',Ib,q⟩:=hc;subst hx;subst hv;refine C6 ⟨max n m,x',Iy,h',?_,q⟩;have a:=IT.IL (Iu n m) hr;have h2:=IT.IL (Bw (HP n m) (F6 _)) Ib;simp only[IT.step,ha,BN];simp only[Gw.run] at*;rw[a];simp only[Jz,BN];exact h2
def yv{key:Nat}{t:IT}{k:GD->List Ab->IT}(hw:W C t (λx vs h1=>W C (k x vs) Q h1) h):W C (.GY key t k) Q h:=by obtain⟨n,x,vs,h1,hr,a⟩:=hw.succ;obtain⟨m,x',Iy,h',Ib,q⟩:=a.succ;refine C6 ⟨max n m,x',Iy,h',?_,q⟩;have c:=IT.Kt (λt h r=>IT.IL (fn:=Cf C) (Iu n m)) _ _ _ hr;have b:=IT.Kt (λt h r=>IT.IL (fn:=Cf C) (HP n m)) _ _ _ Ib;simp only[IT.step];simp only[Gw.run] at*;rw[c];exact b
end
end Go.Am
end
