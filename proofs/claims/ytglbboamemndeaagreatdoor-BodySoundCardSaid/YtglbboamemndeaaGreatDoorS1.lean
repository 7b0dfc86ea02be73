/- Lemmas -/
import GoSem.Step
set_option linter.all false
def Ab:=@Nat.le_refl
def Af:=@if_neg
def Ag:=@if_pos
def Ah:=@decide_eq_false
def Ak:=@decide_eq_true
def Al:=@List.getElem?_eq_some_iff
def An:=@List.getElem?_append_left
def Ao:=@List.length_append
def Ap:=@List.getElem?_set_ne
def Aq:=@List.mem_append
def Au:=@List.getElem?_eq_getElem
def Aw:=@List.length_map
def Ay:=@List.drop_eq_getElem_cons
def AB:=@List.length_take
def AD:=@List.getElem?_set_self
def AE:=@List.Sublist.refl
def AF:=@List.mem_cons
def AG:=@List.length_cons
def AI:=@false_implies
def AK:=@List.getD_eq_getElem?_getD
def AL:=@not_true_eq_false
def AN:=@not_false_eq_true
def AO:=@Array.getElem?_eq_some_iff
def AP:=@List.take_succ_eq_append_getElem
def AQ:=@List.mem_singleton
def AR:=@true_implies
def AS:=@List.length_singleton
def AT:=@List.append_assoc
def AV:=@List.drop_of_length_le
def A0:=@List.mem_of_mem_take
def A3:=@eq_true
def A4:=@List.mem_map
def A7:=@Bool.and_eq_true
def A8:=@List.take_of_length_le
def A9:=@List.map_cons
def Bb:=@List.getElem_mem
def Bc:=@Nat.zero_le
def Bi:=@List.length_drop
def Bk:=@List.length_nil
def Bl:=@Nat.lt_or_ge
def Bn:=@Nat.le_trans
def Bp:=@Nat.add_zero
def Bs:=@List.append_nil
def Bu:=@List.mem_of_mem_drop
def Bw:=@List.getElem?_append_right
def Bx:=@Option.some.injEq
def By:=@Int.toNat_natCast
def BB:=@Nat.zero_add
def BC:=@Nat.add_mul
def BE:=@if_true
def BG:=@List.mem_append_right
def BJ:=@Option.map_some
def BN:=@List.take_length
def BP:=@List.nodup_append
def BR:=@List.nil_append
def BU:=@List.size_toArray
def BV:=@List.nodup_cons
def BW:=@List.map_append
def BY:=@List.length_set
def B0:=@List.set_append_right
def B5:=@Array.length_toList
def B8:=@List.mem_filterMap
def Ca:=@List.take_sublist
def Cd:=@Option.bind_some
def Ce:=@List.set_eq_take_append_cons_drop
def Cg:=@List.getElem?_take
def Ch:=@Bool.false_eq_true
def Cj:=@ne_eq
def Ck:=@eq_self
def Cm:=@congrArg
def Cn:=@List.getElem?_drop
def Co:=@decide_eq_true_eq
def Cr:=@List.mem_of_getElem?
def Cs:=@List.mem_append_left
def Cw:=@List.take_append_drop
def Cx:=@Nat.min_eq_left
def Cy:=@List.eq_nil_of_length_eq_zero
def CA:=@List.getElem?_map
def CB:=@List.flatten_cons
def CD:=@List.cons_append
def CF:=@List.getElem?_of_mem
def CH:=@Array.getElem?_eq_getElem
def CN:=@List.getElem?_take_of_lt
def CS:=@Nat.succ_pos
def C0:=@decide_false
def C7:=@decide_eq_decide
def Dc:=@List.map_nil
def Di:=@Nat.lt_irrefl
def Dl:=@List.mem_filter
def Dz:=@List.take_append_of_le_length
def DA:=@List.mem_or_eq_of_mem_set
def DC:=@Ne.symm
def DK:=@List.all_eq_true
def DM:=@decide_true
def DQ:=@List.getElem?_eq_none
def DR:=@if_false
def D1:=@Nat.mul_le_mul_right
def D2:=@Bool.not_false
def D3:=@Option.some.inj
def Eb:=@Nat.sub_self
def Em:=@List.length_pos_iff
def Eo:=@Nat.one_mul
def Ep:=@Decidable.not_not
def Et:=@List.filterMap_append
def ED:=@List.drop_drop
def EE:=@List.take_left
def EJ:=@List.cons.injEq
def ES:=@List.filter_append
def Fj:=@Nat.le_succ
def Fk:=@Nat.zero_lt_one
def FD:=@Option.getD_some
def FE:=@List.getElem_map
def FF:=@Nat.le_add_right
def F0:=@List.drop_zero
def F5:=@List.take_take
def Gy:=@List.take_succ_cons
def GA:=@Array.toList_append
def GJ:=@Array.getD_eq_getD_getElem?
def GK:=@Bool.not_true
def GL:=@Nat.mul_one
def GM:=@List.map_take
def GP:=@Nat.le_max_right
def GQ:=@List.drop_length
def GR:=@List.filter_cons
def Hi:=@Array.ext'
def Hk:=@List.length_replicate
def Hl:=@List.singleton_append
def Hu:=@List.extract_eq_take_drop
def Hv:=@Decidable.byContradiction
def Hy:=@Nat.le_max_left
def Hz:=@List.find?_cons
def HH:=@List.reverse_cons
def HI:=@bne_self_eq_false
def HX:=@Int.toNat_of_nonneg
def HY:=@List.reverse_append
def HZ:=@List.filterMap_cons
def Ig:=@Array.eq_empty_of_size_eq_zero
def Ih:=@List.take_zero
def Ii:=@Nat.le_mul_of_pos_right
def Ij:=@List.getElem?_cons_zero
def IJ:=@Nat.lt_of_lt_of_le
def IK:=@List.reverse_singleton
def IL:=@List.map_set
def I0:=@List.take_left'
def I5:=@Bool.false_or
def Jg:=@List.set_getElem_self
def Jt:=@Array.size_append
def J7:=@and_true
def J8:=@Array.replicate_succ
def J9:=@Array.replicate_zero
def Ka:=@List.reverse_reverse
def Kw:=@List.toList_toArray
def Kx:=@List.replicate_succ
def Ky:=@List.append_toArray
def Kz:=@List.findIdx?_eq_some_iff_findIdx_eq
def K4:=@Bool.or_false
def K5:=@List.map_drop
def K6:=@List.getElem_append_left
def La:=@List.drop_left'
def Lb:=@Bool.eq_iff_iff
def Lo:=@Nat.eq_zero_or_pos
def Lp:=@List.find?_eq_none
def Lq:=@Nat.add_sub_cancel
def Mc:=@Nat.add_comm
def Md:=@Nat.le_of_eq
def Me:=@Nat.zero_mul
def Mf:=@List.nodup_nil
def Mg:=@List.push_toArray
def Mh:=@List.set_set
def Mi:=@of_decide_eq_true
def ML:=@Array.getElem?_modify
def MM:=@Nat.eq_of_beq_eq_true
def M5:=@Array.toList_map
def M6:=@List.any_eq_true
def M7:=@List.not_mem_nil
def M8:=@Prod.mk.injEq
def NL:=@Array.toList_extract
def NM:=@Int.le_refl
def OA:=@Bool.or_eq_true
def OO:=@List.flatten_append
def OP:=@List.drop_succ_cons
def OX:=@Nat.ne_of_lt
def OY:=@Bool.true_or
def PQ:=@Array.ext_getElem?
def PR:=@not_or
def PS:=@true_and
def PT:=@Int.fdiv_eq_ediv_of_nonneg
def Qw:=@Classical.byContradiction
def Qx:=@Option.filter_eq_some_iff
def Qy:=@List.mem_of_find?_eq_some
def Qz:=@List.getLast?_eq_getElem?
def QA:=@List.pairwise_iff_getElem
def QW:=@List.ext_getElem?
def QX:=@List.find?_append
def Rr:=@Nat.add_assoc
def Rs:=@Bool.bne_true
def Rt:=@List.any_cons
def SV:=@List.drop_append
def SX:=@List.getElem?_cons_succ
def SY:=@List.reverse_nil
def SZ:=@Nat.lt_succ_self
def S0:=@Option.bind_eq_some_iff
def S1:=@Nat.add_sub_cancel_left
def S2:=@Int.eq_ofNat_of_zero_le
def S3:=@List.map_reverse
def TT:=@List.sublist_cons_self
def TU:=@Nat.le_of_lt
def TV:=@Int.not_lt
def UC:=@List.find?_some
def U5:=@List.dropLast_eq_take
def Yu:=@List.mem_cons_of_mem
def Yv:=@and_self
def Za:=@List.take_set_of_le
def Zb:=@Array.getElem?_push
def Zc:=@List.map_congr_left
def Zd:=@List.getD_cons_zero
def Ze:=@List.getD_cons_succ
def Zf:=@List.length_reverse
def Zg:=@List.filter_eq_self
def Zh:=@List.mem_map_of_mem
def aM:=@List.all_cons
def aN:=@Int.lt_irrefl
def j7:=@List.set_cons_zero
def o7:=@dif_pos
def o8:=@List.any_nil
def pJ:=@Array.getElem?_setIfInBounds_ne
def pK:=@List.takeWhile_append_dropWhile
def vB:=@List.zipIdx_cons
def vC:=@List.take_append
def vD:=@List.mem_flatMap
def vE:=@Option.getD_none
def vF:=@Int.natCast_zero
def zB:=@List.drop_append_of_le_length
def fk:=@List.foldl_cons
def fm:=@List.any_append
def gu:=@eq_comm
def vn:=@beq_iff_eq
def vo:=@or_false
def vp:=@List.nodup_iff_pairwise_ne
def Æ:=@List.take_add
def Ç:=@List.eq_of_mem_replicate
def đ:=@and_false
def Ē:=@false_and
def ē:=@List.filter_cons_of_pos
def Ĕ:=@List.length_eq_zero_iff
def ĕ:=@List.getLast?_cons_cons
def aA6:=@List.length_eq_one_iff
def aA7:=@Option.map_eq_some_iff
def aA8:=@List.getElem_cons_zero
def aBH:=@List.contains_iff_mem
def aBI:=@Array.getElem?_toList
def aFu:=@List.getElem?_append
def aFv:=@List.range_eq_range'
def aFw:=@List.pairwise_append
def aFx:=@List.set_append_left
def aFy:=@List.mem_of_getLast?
def aGl:=@Nat.add_sub_cancel'
def aGm:=@List.drop_set_of_lt
def aGn:=@Array.toList_zipIdx
def aGo:=@List.drop_take_self
def aJN:=@List.zip_cons_cons
def aJO:=@Array.foldl_toList
def aJP:=@List.pairwise_cons
def aJQ:=@Option.isSome_some
def aJR:=@List.findIdx?_cons
def aJS:=@List.mem_cons_self
def aJT:=@Option.toList_some
def aJU:=@List.map_singleton
def aLq:=@Bool.not_eq_true'
def aLr:=@List.getElem?_set
def aLs:=@List.pairwise_map
def aLu:=@List.any_eq_false
def aLw:=@List.drop_sublist
def aLx:=@List.find?_isSome
def aLy:=@List.getLast?_nil
def aLz:=@Nat.lt_trichotomy
def aLA:=@List.getElem_take
abbrev aQb:List UInt8:=[97,116,116,114,105,98,117,116,101,78,97,109,101,32,97,116,116,114,105,98,117,116,101,84,121,112,101,32,98,97,115,101,70,114,101,113,117,101,110,99,121,32,98,97,115,101,80,114,111,102,105,108,101,32,99,97,108,99,77,111,100,101,32,99,108,105,112,80,97,116,104,85,110,105,116,115,32,100,105,102,102,117,115,101,67,111,110,115,116,97,110,116,32,101,100,103,101,77,111,100,101,32,102,105,108,116,101,114,85,110,105,116,115,32,103,108,121,112,104,82,101,102,32,103,114,97,100,105,101,110,116,84,114,97,110,115,102,111,114,109,32,103,114,97,100,105,101,110,116,85,110,105,116,115,32,107,101,114,110,101,108,77,97,116,114,105,120,32,107,101,114,110,101,108,85,110,105,116,76,101,110,103,116,104,32,107,101,121,80,111,105,110,116,115,32,107,101,121,83,112,108,105,110,101,115,32,107,101,121,84,105,109,101,115,32,108,101,110,103,116,104,65,100,106,117,115,116,32,108,105,109,105,116,105,110,103,67,111,110,101,65,110,103,108,101,32,109,97,114,107,101,114,72,101,105,103,104,116,32,109,97,114,107,101,114,85,110,105,116,115,32,109,97,114,107,101,114,87,105,100,116,104,32,109,97,115,107,67,111,110,116,101,110,116,85,110,105,116,115,32,109,97,115,107,85,110,105,116,115,32,110,117,109,79,99,116,97,118,101,115,32,112,97,116,104,76,101,110,103,116,104,32,112,97,116,116,101,114,110,67,111,110,116,101,110,116,85,110,105,116,115,32,112,97,116,116,101,114,110,84,114,97,110,115,102,111,114,109,32,112,97,116,116,101,114,110,85,110,105,116,115,32,112,111,105,110,116,115,65,116,88,32,112,111,105,110,116,115,65,116,89,32,112,111,105,110,116,115,65,116,90,32,112,114,101,115,101,114,118,101,65,108,112,104,97,32,112,114,101,115,101,114,118,101,65,115,112,101,99,116,82,97,116,105,111,32,112,114,105,109,105,116,105,118,101,85,110,105,116,115,32,114,101,102,88,32,114,101,102,89,32,114,101,112,101,97,116,67,111,117,110,116,32,114,101,112,101,97,116,68,117,114,32,114,101,113,117,105,114,101,100,69,120,116,101,110,115,105,111,110,115,32,114,101,113,117,105,114,101,100,70,101,97,116,117,114,101,115,32,115,112,101,99,117,108,97,114,67,111,110,115,116,97,110,116,32,115,112,101,99,117,108,97,114,69,120,112,111,110,101,110,116,32,115,112,114,101,97,100,77,101,116,104,111,100,32,115,116,97,114,116,79,102,102,115,101,116,32,115,116,100,68,101,118,105,97,116,105,111,110,32,115,116,105,116,99,104,84,105,108,101,115,32,115,117,114,102,97,99,101,83,99,97,108,101,32,115,121,115,116,101,109,76,97,110,103,117,97,103,101,32,116,97,98,108,101,86,97,108,117,101,115,32,116,97,114,103,101,116,88,32,116,97,114,103,101,116,89,32,116,101,120,116,76,101,110,103,116,104,32,118,105,101,119,66,111,120,32,118,105,101,119,84,97,114,103,101,116,32,120,67,104,97,110,110,101,108,83,101,108,101,99,116,111,114,32,121,67,104,97,110,110,101,108,83,101,108,101,99,116,111,114,32,122,111,111,109,65,110,100,80,97,110]
abbrev aQc:List UInt8:=[97,108,116,71,108,121,112,104,32,97,108,116,71,108,121,112,104,68,101,102,32,97,108,116,71,108,121,112,104,73,116,101,109,32,97,110,105,109,97,116,101,67,111,108,111,114,32,97,110,105,109,97,116,101,77,111,116,105,111,110,32,97,110,105,109,97,116,101,84,114,97,110,115,102,111,114,109,32,99,108,105,112,80,97,116,104,32,102,101,66,108,101,110,100,32,102,101,67,111,108,111,114,77,97,116,114,105,120,32,102,101,67,111,109,112,111,110,101,110,116,84,114,97,110,115,102,101,114,32,102,101,67,111,109,112,111,115,105,116,101,32,102,101,67,111,110,118,111,108,118,101,77,97,116,114,105,120,32,102,101,68,105,102,102,117,115,101,76,105,103,104,116,105,110,103,32,102,101,68,105,115,112,108,97,99,101,109,101,110,116,77,97,112,32,102,101,68,105,115,116,97,110,116,76,105,103,104,116,32,102,101,68,114,111,112,83,104,97,100,111,119,32,102,101,70,108,111,111,100,32,102,101,70,117,110,99,65,32,102,101,70,117,110,99,66,32,102,101,70,117,110,99,71,32,102,101,70,117,110,99,82,32,102,101,71,97,117,115,115,105,97,110,66,108,117,114,32,102,101,73,109,97,103,101,32,102,101,77,101,114,103,101,32,102,101,77,101,114,103,101,78,111,100,101,32,102,101,77,111,114,112,104,111,108,111,103,121,32,102,101,79,102,102,115,101,116,32,102,101,80,111,105,110,116,76,105,103,104,116,32,102,101,83,112,101,99,117,108,97,114,76,105,103,104,116,105,110,103,32,102,101,83,112,111,116,76,105,103,104,116,32,102,101,84,105,108,101,32,102,101,84,117,114,98,117,108,101,110,99,101,32,102,111,114,101,105,103,110,79,98,106,101,99,116,32,103,108,121,112,104,82,101,102,32,108,105,110,101,97,114,71,114,97,100,105,101,110,116,32,114,97,100,105,97,108,71,114,97,100,105,101,110,116,32,116,101,120,116,80,97,116,104]
abbrev aQd:List UInt8:=[97,100,100,114,101,115,115,32,97,114,116,105,99,108,101,32,97,115,105,100,101,32,98,108,111,99,107,113,117,111,116,101,32,98,117,116,116,111,110,32,99,101,110,116,101,114,32,100,101,116,97,105,108,115,32,100,105,97,108,111,103,32,100,105,114,32,100,105,118,32,100,108,32,102,105,101,108,100,115,101,116,32,102,105,103,99,97,112,116,105,111,110,32,102,105,103,117,114,101,32,102,111,111,116,101,114,32,104,101,97,100,101,114,32,104,103,114,111,117,112,32,108,105,115,116,105,110,103,32,109,97,105,110,32,109,101,110,117,32,110,97,118,32,111,108,32,112,114,101,32,115,101,97,114,99,104,32,115,101,99,116,105,111,110,32,115,117,109,109,97,114,121,32,117,108]
abbrev aQe:List UInt8:=[98,97,115,101,32,98,97,115,101,102,111,110,116,32,98,103,115,111,117,110,100,32,108,105,110,107,32,109,101,116,97,32,110,111,102,114,97,109,101,115,32,115,99,114,105,112,116,32,115,116,121,108,101,32,116,101,109,112,108,97,116,101,32,116,105,116,108,101]
abbrev aQf:List UInt8:=[97,100,100,114,101,115,115,32,97,114,116,105,99,108,101,32,97,115,105,100,101,32,98,108,111,99,107,113,117,111,116,101,32,99,101,110,116,101,114,32,100,101,116,97,105,108,115,32,100,105,97,108,111,103,32,100,105,114,32,100,105,118,32,100,108,32,102,105,101,108,100,115,101,116,32,102,105,103,99,97,112,116,105,111,110,32,102,105,103,117,114,101,32,102,111,111,116,101,114,32,104,101,97,100,101,114,32,104,103,114,111,117,112,32,109,97,105,110,32,109,101,110,117,32,110,97,118,32,111,108,32,112,32,115,101,97,114,99,104,32,115,101,99,116,105,111,110,32,115,117,109,109,97,114,121,32,117,108]
abbrev aQg:List UInt8:=[104,116,109,108]
abbrev aQh:List UInt8:=[116,101,109,112,108,97,116,101]
abbrev aQi:List UInt8:=[98,117,116,116,111,110]
abbrev aQj:List UInt8:=[104,101,97,100]
abbrev aQk:List UInt8:=[98,111,100,121]
abbrev aQl:List UInt8:=[97,114,101,97,32,98,114,32,101,109,98,101,100,32,105,109,103,32,105,109,97,103,101,32,107,101,121,103,101,110,32,119,98,114,32,105,110,112,117,116,32,112,97,114,97,109,32,115,111,117,114,99,101,32,116,114,97,99,107,32,104,114]
abbrev aQm:List UInt8:=[99,97,112,116,105,111,110,32,99,111,108,32,99,111,108,103,114,111,117,112,32,102,114,97,109,101,32,104,101,97,100,32,116,98,111,100,121,32,116,100,32,116,102,111,111,116,32,116,104,32,116,104,101,97,100,32,116,114]
abbrev aQn:List UInt8:=[110,111,115,99,114,105,112,116]
abbrev aQo:List UInt8:=[97,32,98,32,98,105,103,32,99,111,100,101,32,101,109,32,102,111,110,116,32,105,32,110,111,98,114,32,115,32,115,109,97,108,108,32,115,116,114,105,107,101,32,115,116,114,111,110,103,32,116,116,32,117]
abbrev aQp:List UInt8:=[102,114,97,109,101,115,101,116]
abbrev aQq:List UInt8:=[116,105,116,108,101]
abbrev aQr:List UInt8:=[104,49,32,104,50,32,104,51,32,104,52,32,104,53,32,104,54]
abbrev aQs:List UInt8:=[98,32,98,105,103,32,99,111,100,101,32,101,109,32,102,111,110,116,32,105,32,115,32,115,109,97,108,108,32,115,116,114,105,107,101,32,115,116,114,111,110,103,32,116,116,32,117]
abbrev aQt:List UInt8:=[97,110,110,111,116,97,116,105,111,110,45,120,109,108]
abbrev aQu:List UInt8:=[116,97,98,108,101]
abbrev aQv:List UInt8:=[97,112,112,108,101,116,32,109,97,114,113,117,101,101,32,111,98,106,101,99,116]
abbrev aQw:List UInt8:=[98,97,115,101,102,111,110,116,32,98,103,115,111,117,110,100,32,108,105,110,107,32,109,101,116,97,32,110,111,102,114,97,109,101,115,32,115,116,121,108,101]
abbrev aQx:List UInt8:=[111,112,116,105,111,110]
abbrev aQy:List UInt8:=[115,99,114,105,112,116]
abbrev aQz:List UInt8:=[116,101,120,116,97,114,101,97,32,120,109,112,32,105,102,114,97,109,101,32,110,111,101,109,98,101,100,32,112,108,97,105,110,116,101,120,116]
abbrev aQA:List UInt8:=[45,47,47,87,51,67,47,47,68,84,68,32,72,84,77,76,32,69,120,112,101,114,105,109,101,110,116,97,108,32,49,57,57,54,48,55,49,50,47,47]
abbrev aQB:List UInt8:=[99,97,112,116,105,111,110,32,99,111,108,103,114,111,117,112,32,116,98,111,100,121,32,116,102,111,111,116,32,116,104,101,97,100]
abbrev aQC:List UInt8:=[45,47,47,87,51,67,47,47,68,84,68,32,72,84,77,76,32,69,120,112,101,114,105,109,101,110,116,97,108,32,57,55,48,52,50,49,47,47]
abbrev aQD:List UInt8:=[99,97,112,116,105,111,110]
abbrev aQE:List UInt8:=[110,111,98,114]
abbrev aQF:List UInt8:=[45,47,47,87,51,67,47,47,68,84,68,32,72,84,77,76,32,52,46,48,49,32,84,114,97,110,115,105,116,105,111,110,97,108,47,47]
abbrev aQG:List UInt8:=[98,97,115,101,32,98,97,115,101,102,111,110,116,32,98,103,115,111,117,110,100,32,108,105,110,107,32,109,101,116,97]
abbrev aQH:List UInt8:=[45,47,47,87,51,67,47,47,68,84,68,32,72,84,77,76,32,52,46,48,32,84,114,97,110,115,105,116,105,111,110,97,108,47,47]
abbrev aQI:List UInt8:=[45,47,47,87,51,79,47,47,68,84,68,32,87,51,32,72,84,77,76,32,83,116,114,105,99,116,32,51,46,48,47,47,69,78,47,47]
abbrev aQJ:List UInt8:=[45,47,87,51,67,47,68,84,68,32,72,84,77,76,32,52,46,48,32,84,114,97,110,115,105,116,105,111,110,97,108,47,69,78]
abbrev aQK:List UInt8:=[45,47,47,87,51,67,47,47,68,84,68,32,72,84,77,76,32,52,46,48,49,32,70,114,97,109,101,115,101,116,47,47]
abbrev aQL:List UInt8:=[102,111,114,101,105,103,110,79,98,106,101,99,116]
abbrev aQM:List UInt8:=[45,47,47,87,51,67,47,47,68,84,68,32,72,84,77,76,32,52,46,48,32,70,114,97,109,101,115,101,116,47,47]
abbrev aQN:List UInt8:=[111,112,116,103,114,111,117,112]
abbrev aQO:List UInt8:=[104,101,97,100,32,116,101,109,112,108,97,116,101,32,98,111,100,121,32,104,116,109,108,32,98,114]
abbrev aQP:List UInt8:=[99,111,108,103,114,111,117,112]
abbrev aQQ:List UInt8:=[115,101,108,101,99,116]
abbrev aQR:List UInt8:=[104,101,97,100,32,98,111,100,121,32,104,116,109,108,32,98,114]
abbrev aQS:List UInt8:=[45,47,47,87,51,67,47,47,68,84,68,32,72,84,77,76,32,51,32,49,57,57,53,45,48,51,45,50,52,47,47]
abbrev aQT:List UInt8:=[102,111,114,109]
abbrev aQU:List UInt8:=[116,102,111,111,116]
abbrev aQV:List UInt8:=[116,98,111,100,121]
abbrev aQW:List UInt8:=[116,104,101,97,100]
abbrev aQX:List UInt8:=[97,112,112,108,105,99,97,116,105,111,110,47,120,104,116,109,108,43,120,109,108]
abbrev aQY:List UInt8:=[116,101,109,112,108,97,116,101,32,98,111,100,121,32,104,116,109,108,32,98,114]
abbrev aQZ:List UInt8:=[45,47,47,73,69,84,70,47,47,68,84,68,32,72,84,77,76,32,76,101,118,101,108,32]
abbrev aQ0:List UInt8:=[45,47,47,73,69,84,70,47,47,68,84,68,32,72,84,77,76,32,83,116,114,105,99,116]
abbrev aQ1:List UInt8:=[45,47,47,87,51,79,47,47,68,84,68,32,87,51,32,72,84,77,76,32,51,46,48,47,47]
abbrev aQ2:List UInt8:=[120,108,105,110,107,58,97,114,99,114,111,108,101]
abbrev aQ3:List UInt8:=[104,105,100,100,101,110]
abbrev aQ4:List UInt8:=[120,108,105,110,107,58,97,99,116,117,97,116,101]
abbrev aQ5:List UInt8:=[45,47,47,73,69,84,70,47,47,68,84,68,32,72,84,77,76,32,50,46,49,69,47,47]
abbrev aQ6:List UInt8:=[112,108,97,105,110,116,101,120,116]
abbrev aQ7:List UInt8:=[120,108,105,110,107,58,116,105,116,108,101]
abbrev aQ8:List UInt8:=[120,109,108,110,115,58,120,108,105,110,107]
abbrev aQ9:List UInt8:=[45,47,47,73,69,84,70,47,47,68,84,68,32,72,84,77,76,32,50,46,48]
abbrev aRa:List UInt8:=[45,47,47,87,51,67,47,47,68,84,68,32,87,51,32,72,84,77,76,47,47]
abbrev aRb:List UInt8:=[120,109,108,110,115]
abbrev aRc:List UInt8:=[116,101,120,116,97,114,101,97]
abbrev aRd:List UInt8:=[45,47,47,87,51,67,47,47,68,84,68,32,72,84,77,76,32,51,46,50]
abbrev aRe:List UInt8:=[120,108,105,110,107,58,104,114,101,102]
abbrev aRf:List UInt8:=[120,108,105,110,107,58,114,111,108,101]
abbrev aRg:List UInt8:=[120,108,105,110,107,58,115,104,111,119]
abbrev aRh:List UInt8:=[120,108,105,110,107,58,116,121,112,101]
abbrev aRi:List UInt8:=[111,112,116,103,114,111,117,112,32,111,112,116,105,111,110]
abbrev aRj:List UInt8:=[116,121,112,101]
abbrev aRk:List UInt8:=[45,47,47,73,69,84,70,47,47,68,84,68,32,72,84,77,76,32,51]
abbrev aRl:List UInt8:=[45,47,47,73,69,84,70,47,47,68,84,68,32,72,84,77,76,47,47]
abbrev aRm:List UInt8:=[109,97,114,113,117,101,101]
abbrev aRn:List UInt8:=[114,117,98,121]
abbrev aRo:List UInt8:=[110,111,102,114,97,109,101,115,32,115,116,121,108,101]
abbrev aRp:List UInt8:=[100,101,102,105,110,105,116,105,111,110,117,114,108]
abbrev aRq:List UInt8:=[120,109,108,58,115,112,97,99,101]
abbrev aRr:List UInt8:=[100,101,102,105,110,105,116,105,111,110,85,82,76]
abbrev aRs:List UInt8:=[104,101,97,100,32,110,111,115,99,114,105,112,116]
abbrev aRt:List UInt8:=[97,100,100,114,101,115,115,32,100,105,118,32,112]
abbrev aRu:List UInt8:=[97,112,112,108,101,116]
abbrev aRv:List UInt8:=[115,111,117,114,99,101]
abbrev aRw:List UInt8:=[105,102,114,97,109,101]
abbrev aRx:List UInt8:=[110,111,102,114,97,109,101,115]
abbrev aRy:List UInt8:=[120,109,108,58,108,97,110,103]
abbrev aRz:List UInt8:=[98,97,115,101,102,111,110,116]
abbrev aRA:List UInt8:=[111,98,106,101,99,116]
abbrev aRB:List UInt8:=[112,114,101,32,108,105,115,116,105,110,103]
abbrev aRC:List UInt8:=[114,98,32,114,116,99,32,114,112,32,114,116]
abbrev aRD:List UInt8:=[114,116,99]
abbrev aRE:List UInt8:=[110,111,115,99,114,105,112,116,32,98,114]
abbrev aRF:List UInt8:=[105,110,112,117,116]
abbrev aRG:List UInt8:=[98,103,115,111,117,110,100]
abbrev aRH:List UInt8:=[97,100,100,114,101,115,115]
abbrev aRI:List UInt8:=[97,114,99,114,111,108,101]
abbrev aRJ:List UInt8:=[105,109,97,103,101]
abbrev aRK:List UInt8:=[109,97,116,104]
abbrev aRL:List UInt8:=[97,99,116,117,97,116,101]
abbrev aRM:List UInt8:=[98,108,111,99,107,113,117,111,116,101]
abbrev aRN:List UInt8:=[102,105,103,99,97,112,116,105,111,110]
abbrev aRO:List UInt8:=[112,32,108,105,32,100,100,32,100,116]
abbrev aRP:List UInt8:=[112,97,114,97,109]
abbrev aRQ:List UInt8:=[116,114,97,99,107]
abbrev aRR:List UInt8:=[116,101,120,116,47,104,116,109,108]
abbrev aRS:List UInt8:=[99,111,108]
abbrev aRT:List UInt8:=[104,116,109,108,32,98,111,100,121]
abbrev aRU:List UInt8:=[102,105,101,108,100,115,101,116]
abbrev aRV:List UInt8:=[105,109,103]
abbrev aRW:List UInt8:=[100,101,115,99]
abbrev aRX:List UInt8:=[101,110,99,111,100,105,110,103]
abbrev aRY:List UInt8:=[120,108,105,110,107]
abbrev aRZ:List UInt8:=[115,116,121,108,101]
abbrev aR0:List UInt8:=[109,97,116,104,32,115,118,103]
abbrev aR1:List UInt8:=[108,105,32,100,100,32,100,116]
abbrev aR2:List UInt8:=[100,100,32,100,116]
abbrev aR4:List UInt8:=[115,112,97,99,101]
abbrev aR9:List UInt8:=[120,109,112]
abbrev aSa:List UInt8:=[104,114,101,102]
abbrev aSb:List UInt8:=[114,111,108,101]
abbrev aSc:List UInt8:=[115,104,111,119]
abbrev aSd:List UInt8:=[108,105,110,107]
theorem Ac{p:Prop}(h:p:=by omega):p:=h
theorem Ax{p:Prop}(h:p:=by simp):p:=h
theorem AM{p:Prop}(h:p:=by decide):p:=h
theorem Eg{p:Prop}(h:p:=by decide +kernel):p:=h
theorem Gw{p:Prop}(h:p:=by simp only; omega):p:=h
theorem Ek{p:Prop}(h:p:=by simp; omega):p:=h
theorem Ir{p:Prop}(h:p:=by simp[Go.Op.operands]):p:=h
theorem Q5{p:Prop}(h:p:=by simp[Go.Value.cells,Go.Value.oneCell']):p:=h
section
section
namespace Go.Am
abbrev Aj:=List UInt8
inductive Aa where
 |bool (b:Bool)
 |int (k:IntKind) (n:Int)
 |str (s:Aj)
 |ptr (p:Option (Nat×Nat))
 |Cu (cells:List Aa)
 |sl (size:Nat) (Av:List (List Aa))
 |slnil
 |EI (size:Nat)
 |CT (id off len size:Nat)
 |map (m:Option Nat)
 |func (fn:Fn) (first captured:List Aa)
 |nilFunc
 |iface (t:TypeId) (v:Aa)
 |nilIface
 |agg (cells:List Aa)
 |tuple (vs:List Aa)
 deriving Inhabited
mutual
def Aa.beq:Aa->Aa->Bool
 | .bool a,.bool b=>a==b
 | .int k a,.int l b=>k==l&&a==b
 | .str a,.str b=>a==b
 | .ptr a,.ptr b=>a==b
 | .Cu a,.Cu b=>Aa.Rx a b
 | .sl n a,.sl m b=>n==m&&Aa.Ry a b
 | .slnil,.slnil=>true
 | .EI a,.EI b=>a==b
 | .CT a b c d,.CT a' b' c' e=>a==a'&&b==b'&&c==c'&&d==e
 | .map a,.map b=>a==b
 | .func f a b,.func f' a' b'=>f==f'&&Aa.Rx a a'&&Aa.Rx b b'
 | .nilFunc,.nilFunc=>true
 | .iface t a,.iface t' a'=>t==t'&&Aa.beq a a'
 | .nilIface,.nilIface=>true
 | .agg a,.agg b=>Aa.Rx a b
 | .tuple a,.tuple b=>Aa.Rx a b
 |_,_=>false
def Aa.Rx:List Aa->List Aa->Bool
 |[],[]=>true
 |a::x,b::y=>Aa.beq a b&&Aa.Rx x y
 |_,_=>false
def Aa.Ry:List (List Aa)->List (List Aa)->Bool
 |[],[]=>true
 |a::x,b::y=>Aa.Rx a b&&Aa.Ry x y
 |_,_=>false
end
def Aa.cells:Aa->List Aa
 | .agg cs=>cs
 | .tuple _=>[]
 |v=>[v]
inductive EN where
 |cells (cs:List Aa)
 |map (es:List (Aa×Aa))
 |Dw
 deriving Inhabited
abbrev Ai:=List EN
inductive kM where
 |copy (size:Nat)
 |clear (size:Nat) (zero:List Aa)
 |zC (size:Nat) (lo hi:Bool)
 |pL (size:Nat)
 |aBJ (t:TypeId)
 |zD (zero:Aa) (ok:Bool)
 |S7 (zero:Aa)
 |aO (zero:Aa)
 |NO
 |gw
 |gx
 |VU (g:Ai->List Aa->Option (Ai×Aa))
def kM.aBK:kM->Bool
 | .pL _| .clear _ _| .NO| .gw=>true
 |_=>false
inductive Ec where
 |undef
 |skip
 |val (v:Aa)
 |OQ (b:Bool)
 |BI (v:Aa)
 |box (ver:Nat) (cells:List Aa) (BI:List Nat)
 |EY (s off:Nat)
 deriving Inhabited
abbrev BF:=List Ec
def BF.at(U:BF)(s:Nat):Ec:=U.getD s .undef
def Ec.GW:Ec->Option Aa
 | .val v| .BI v=>some v
 | .OQ b=>some (.bool b)
 |_=>none
inductive FK where
 |b|i|s
 deriving DecidableEq,Inhabited
inductive NK where
 |sl|fn|mp
 deriving DecidableEq,Inhabited
inductive Rz where
 |int (op:BinOp)
 |str (op:BinOp)
 |beq (neg:Bool)
 |geq (neg:Bool) (ks:List FK)
 |Ė (neg:Bool)
 |Fe (neg:Bool) (k:NK)
 |un (op:UnOp)
 |conv(k:IntKind)
 |pick
 |part (off:Nat) (n:Option Nat)
 |ė (len size:Nat) (n:Option Nat)
 |YA
 |KI (off:Nat)
 |FG (size:Nat)
 |TW (len size:Nat)
 |len (isStr:Bool)
 |append (size bytes:Nat)
 |PU (size:Nat) (isStr lo hi:Bool)
 |ext (i:Nat)
 |I6
 |DX (size:Nat)
 |EI (size:Nat)
 |C2 (zero:List Aa) (places:List (Nat×Nat))
 |Lc (isMax:Bool)
 |YB
 |s2b
 |i2s
 deriving Inhabited
def O0:Value->Option Aa
 | .bool b=>some (.bool b)
 | .int k n=>some (.int k n)
 | .string s=>some (.str s.data.toList)
 | .pointer none=>some (.ptr none)
 | .slice none 0 0=>some .slnil
 | .map none=>some (.map none)
 | .func fn f c=>if f.size=0/\c.size=0 then some (.func fn [] []) else none
 | .nilFunc=>some .nilFunc
 | .nilIface=>some .nilIface
 |_=>none
def LF:List Value->Option (List Aa)
 |[]=>some []
 |v::vs=>match O0 v,LF vs with
  |some a,some as=>some (a::as)
  |_,_=>none
def KA:Value->Option Aa
 | .agg cs=>(LF cs.toList).map .agg
 |v=>O0 v
def PV:Sem Value->Option Value
 | .pure v=>some v
 |_=>none
def AJ:Nat:=140737488355328
def vG(op:BinOp)(k:IntKind)(a:Int)(l:IntKind)(b:Int):Option Aa:=
 (PV (binOp op 0 (.int k a) (.int l b))).bind λv=>match v with
  | .int k n=>some (.int k n)
  | .bool b=>some (.bool b)
  |_=>none
def kN(op:BinOp)(a b:Aj):Option Aa:=
 match op with
 | .add=>if a.length+b.length<=9223372036854775807 then some (.str (a++b)) else none
 | .eql=>some (.bool (a==b))
 | .neq=>some (.bool (!(a==b)))
 | .lss=>some (.bool (Op.bytesLess a b))
 | .leq=>some (.bool (Op.bytesLess a b||a==b))
 | .gtr=>some (.bool (!(Op.bytesLess a b||a==b)))
 | .geq=>some (.bool (!(Op.bytesLess a b)))
 |_=>none
def LM:FK->Aa->Aa->Option Bool
 | .b,.bool a,.bool b=>some (a==b)
 | .i,.int k a,.int l b=>if k=l then some (a==b) else none
 | .s,.str a,.str b=>some (a==b)
 |_,_,_=>none
def DU:List FK->List Aa->List Aa->Option Bool
 |[],[],[]=>some true
 |k::ks,a::x,b::y=>match LM k a b,DU ks x y with
  |some e,some es=>some (e&&es)
  |_,_=>none
 |_,_,_=>none
def vH:Aa->Aa->Option Bool
 | .ptr none,.ptr b=>some b.isNone
 | .ptr (some _),.ptr none=>some false
 | .ptr (some a),.ptr (some b)=>if a=b then some true else none
 | .ptr none,.Cu _=>some false
 | .Cu _,.ptr none=>some false
 |_,_=>none
def vI:NK->Aa->Aa->Option Bool
 | .sl,.slnil,.slnil=>some true
 | .sl,.slnil,.sl _ _=>some false
 | .sl,.sl _ _,.slnil=>some false
 | .sl,.slnil,.EI _=>some false
 | .sl,.EI _,.slnil=>some false
 | .sl,.slnil,.CT _ _ _ _=>some false
 | .sl,.CT _ _ _ _,.slnil=>some false
 | .fn,.nilFunc,.nilFunc=>some true
 | .fn,.nilFunc,.func _ _ _=>some false
 | .fn,.func _ _ _,.nilFunc=>some false
 | .mp,.map none,.map b=>some b.isNone
 | .mp,.map (some _),.map none=>some false
 |_,_,_=>none
def E8(cs:List Aa)(off:Nat):Option Nat->Option Aa
 |none=>cs[off]?
 |some n=>if off+n<=cs.length then some (.agg ((cs.drop off).take n)) else none
def LN(n:Int)(len:Nat):Option Nat:=if 0<=n/\n<len then some n.toNat else none
def En(n:Int)(top:Nat):Option Nat:=if 0<=n/\n<=top then some n.toNat else none
def Dx(lo hi:Bool)(len:Nat)(as:List Aa):Option (Nat×Nat):=
 match lo,hi with
 |false,false=>match as with
  |[]=>some (0,len)
  |_=>none
 |false,true=>match as with
  |[.int _ h]=>(En h len).map λh=>(0,h)
  |_=>none
 |true,false=>match as with
  |[.int _ l]=>(En l len).map λl=>(l,len)
  |_=>none
 |true,true=>match as with
  |[.int _ l,.int _ h]=>(En h len).bind λh=>(En l h).map λl=>(l,h)
  |_=>none
def Mq:List (List Aa)->Option Aj
 |[]=>some []
 |[.int .u8 n]::rs=>(Mq rs).map λl=>n.toNat.toUInt8::l
 |_=>none
def CX(s:Aj):List (List Aa):=s.map λb=>[.int .u8 b.toNat]
def Dm(size bytes:Nat)(s:Aa)(Av:List (List Aa)):Option Aa:=
 match Av with
 |[]=>match s with
  | .slnil=>some .slnil
  | .EI z=>if z=size then some (.EI z) else none
  | .sl z r=>if z=size then some (.sl z r) else none
  |_=>none
 |Av=>match s with
  | .slnil=>if Av.length*bytes<=AJ then some (.sl size Av) else none
  | .EI z=>if z=size/\Av.length*bytes<=AJ then some (.sl size Av) else none
  | .sl z r=>if z=size/\(r.length+Av.length)*bytes<=AJ then some (.sl size (r++Av)) else none
  |_=>none
def Bj(cs:List Aa):List ((Nat×Nat)×Aa)->Option (List Aa)
 |[]=>some cs
 |((off,size),v)::rest=>if 0<size/\v.cells.length=size/\off+size<=cs.length then Bj (cs.take off++v.cells++cs.drop (off+size)) rest else none
def È(k:IntKind)(n:Int):Option Aa:=
 (PV (Op.unary .xor (.int k n))).bind λv=>match v with
  | .int k n=>some (.int k n)
  |_=>none
def Ę:UnOp->Aa->Option Aa
 | .not,.bool b=>some (.bool (!b))
 | .neg,.int k n=>some (.int k (k.wrap (0 -n)))
 | .xor,.int k n=>È k n
 |_,_=>none
def VV(p:Aa)(off:Nat):Option Aa:=
 match p with
 | .Cu cs=>some (.Cu (cs.drop off))
 | .ptr (some (id,o))=>some (.ptr (some (id,o+off)))
 |_=>none
def elemOf(size:Nat)(s:Aa)(i:Int):Option Aa:=
 match s with
 | .sl z Av=>if z=size then(if 0<=i then(Av[i.toNat]?).map .Cu else none) else none
 | .CT id off len z=>if z=size then(LN i len).map λi=> .ptr (some (id,off+i*size)) else none
 |_=>none
def lenOf(isStr:Bool)(s:Aa):Option Aa:=
 match s with
 | .sl _ Av=>if isStr then none else some (.int .i64 Av.length)
 | .CT _ _ n _=>if isStr then none else some (.int .i64 n)
 | .slnil=>if isStr then none else some (.int .i64 0)
 | .EI _=>if isStr then none else some (.int .i64 0)
 | .str s=>if isStr then some (.int .i64 s.length) else none
 |_=>none
def HA(size bytes:Nat)(s x:Aa):Option Aa:=
 match x with
 | .slnil=>Dm size bytes s []
 | .EI z=>if z=size then Dm size bytes s [] else none
 | .sl z Av=>if z=size then Dm size bytes s Av else none
 | .str x=>if size=1 then Dm size bytes s (CX x) else none
 |_=>none
def Im(size:Nat)(isStr lo hi:Bool)(s:Aa)(as:List Aa):Option Aa:=
 match s with
 | .str s=>if isStr then(Dx lo hi s.length as).map λ(l,h)=> .str ((s.take h).drop l) else none
 | .sl z Av=>if isStr=false/\z=size then(Dx lo hi Av.length as).map λ(l,h)=> .sl z ((Av.take h).drop l) else none
 | .CT id off n z=>if isStr=false/\z=size then(Dx lo hi n as).bind λ(l,h)=>if l<n then some (.CT id (off+l*z) (h-l) z) else some (.sl z []) else none
 | .slnil=>if isStr then none else(Dx lo hi 0 as).map λ_=> .slnil
 |_=>none
def kO:Aa->Option Aa
 | .ptr (some p)=>some (.ptr (some p))
 | .Cu cs=>some (.Cu cs)
 | .func (.func f) a b=>some (.func (.func f) a b)
 |_=>none
def aP:Aa->Option Aa
 | .sl 1 Av=>(Mq Av).map .str
 | .slnil=>some (.str [])
 |_=>none
def Az(p:Rz)(args:List Aa):Option Aa:=
 match p with
 | .int op=>match args with
  |[.int k a,.int l b]=>vG op k a l b
  |_=>none
 | .str op=>match args with
  |[.str a,.str b]=>kN op a b
  |_=>none
 | .beq neg=>match args with
  |[.bool a,.bool b]=>some (.bool ((a==b) != neg))
  |_=>none
 | .geq neg ks=>match args with
  |[.agg a,.agg b]=>(DU ks a b).map λe=> .bool (e != neg)
  |_=>none
 | .Ė neg=>match args with
  |[a,b]=>(vH a b).map λe=> .bool (e != neg)
  |_=>none
 | .Fe neg k=>match args with
  |[a,b]=>(vI k a b).map λe=> .bool (e != neg)
  |_=>none
 | .un op=>match args with
  |[v]=>Ę op v
  |_=>none
 | .conv k=>match args with
  |[.int _ n]=>some (.int k (k.wrap n))
  |_=>none
 | .i2s=>match args with
  |[.int _ n]=>some (.str (Utf8.encode n).data.toList)
  |_=>none
 | .pick=>match args with
  |[.bool c,a,b]=>some (if c then a else b)
  |_=>none
 | .part off n=>match args with
  |[.agg cs]=>E8 cs off n
  |_=>none
 | .ė len size n=>match args with
  |[.agg cs,.int _ i]=>(LN i len).bind λi=>E8 cs (i*size) n
  |_=>none
 | .YA=>match args with
  |[.str s,.int _ i]=>if 0<=i then(s[i.toNat]?).map λb=> .int .u8 b.toNat else none
  |_=>none
 | .KI off=>match args with
  |[p]=>VV p off
  |_=>none
 | .FG size=>match args with
  |[s,.int _ i]=>elemOf size s i
  |_=>none
 | .TW len size=>match args with
  |[p,.int _ i]=>(LN i len).bind λi=>VV p (i*size)
  |_=>none
 | .len isStr=>match args with
  |[s]=>lenOf isStr s
  |_=>none
 | .append size bytes=>match args with
  |[s,x]=>HA size bytes s x
  |_=>none
 | .PU size isStr lo hi=>match args with
  |s::as=>Im size isStr lo hi s as
  |_=>none
 | .ext i=>match args with
  |[.tuple vs]=>vs[i]?
  |_=>none
 | .I6=>match args with
  |[v]=>kO v
  |_=>none
 | .DX size=>if args.all (λa=>a.cells.length==size)&&decide (args.length*size<=16777216) then some (.sl size (args.map (·.cells))) else none
 | .EI size=>if args.isEmpty then some (.EI size) else none
 | .C2 zero places=>if places.length=args.length then(Bj zero (places.zip args)).map .agg else none
 | .Lc isMax=>match args with
  |[.int k a,.int l b]=>if k=l then some (.int k (if isMax then(if b>a then b else a) else(if b<a then b else a))) else none
  |_=>none
 | .YB=>match args with
  |[v]=>aP v
  |_=>none
 | .s2b=>match args with
  |[.str s]=>if s.length<=AJ then some (.sl 1 (CX s)) else none
  |_=>none
inductive DV where
 |normal
 |exit (id:Nat)
 |ret
 deriving DecidableEq,Inhabited
inductive IT where
 |ret (x:DV) (vs:List Aa)
 |fail
 |op (o:Rz) (args:List Aa) (k:Aa->IT)
 |cells (n:Nat) (v:Aa) (k:List Aa->IT)
 |FH (c:Aa) (t e:IT)
 |load (n:Option Nat) (p:Aa) (k:Aa->IT)
 |store (n:Nat) (p v:Aa) (k:IT)
 |alloc (n:Nat) (v:Aa) (k:Aa->IT)
 |call (f:FuncId) (args:List Aa) (k:Aa->IT)
 |Iz (fn:Aa) (args:List Aa) (k:Aa->IT)
 |Cb (f:FuncId) (args:List Aa) (k:Aa->IT)
 |loop (key:Nat) (init:List Aa) (body:List Aa->IT) (k:DV->List Aa->IT)
 |OR (key:Nat) (t:IT) (k:DV->List Aa->IT)
 |same (a b:Aa) (k:IT)
 |O1 (k:Aa->IT)
 |Kc (m key v:Aa) (k:IT)
 |LO (zero:Aa) (ok:Bool) (m key:Aa) (k:Aa->IT)
 |make (size bytes:Nat) (zero:List Aa) (len cap:Aa) (k:Aa->IT)
 |KJ (size bytes:Nat) (s x:Aa) (k:Aa->IT)
 |ET (s:Aa) (k:Aa->IT)
 |UD (v:Aa) (k:Aa->IT)
 |O2 (off:Nat) (p:Aa) (k:IT)
 |ID (size bytes:Nat) (s x:Aa) (k:Aa->IT)
 |F6 (size bytes:Nat) (s x:Aa) (k:Aa->IT)
 |mem (o:kM) (args:List Aa) (k:Aa->IT)
 |vJ (f:FuncId) (args:List Aa) (k:Aa->IT)
 deriving Inhabited
def Aa.Mk:Aa->Bool
 | .bool _| .int _ _| .str _=>true
 |_=>false
def Bd(h:Ai)(n:Option Nat):Aa->Option Aa
 | .Cu cs=>E8 cs 0 n
 | .ptr (some (id,off))=>match h[id]? with
  |some (.cells cs)=>E8 cs off n
  |_=>none
 |_=>none
def CK(h:Ai)(n:Nat)(p v:Aa):Option Ai:=
 match p with
 | .ptr (some (id,off))=>match h[id]? with
  |some (.cells cs)=>if v.cells.length=n/\off+n<=cs.length then some (h.set id (.cells (cs.take off++v.cells++cs.drop (off+n)))) else none
  |_=>none
 |_=>none
def VW(h:Ai)(n:Nat)(v:Aa):Option (Ai×Aa):=
 if v.cells.length=n then some (h++[.cells v.cells],.ptr (some (h.length,0))) else none
def RA(s:Aj):List (Aa×Aa)->Option (Option Aa)
 |[]=>some none
 |(.str t,v)::es=>if s=t then some (some v) else RA s es
 |_=>none
def M9(s:Aj)(v:Aa):List (Aa×Aa)->Option (List (Aa×Aa))
 |[]=>some [(.str s,v)]
 |(.str t,v')::es=>if s=t then some ((.str s,v)::es) else(M9 s v es).map λes=>(.str t,v')::es
 |_=>none
def QB(h:Ai)(m k v:Aa):Option Ai:=
 match m,k with
 | .map (some id),.str s=>match h[id]? with
  |some (.map es)=>(M9 s v es).map λes=>h.set id (.map es)
  |_=>none
 |_,_=>none
def S8(h:Ai)(m k:Aa):Option (Option Aa):=
 match m,k with
 | .map none,.str _=>some none
 | .map (some id),.str s=>match h[id]? with
  |some (.map es)=>RA s es
  |_=>none
 |_,_=>none
def OB(h:Ai)(zero:Aa)(ok:Bool)(m k:Aa):Option Aa:=
 (S8 h m k).map λr=>match r with
  |some v=>if ok then .tuple [v,.bool true] else v
  |none=>if ok then .tuple [zero,.bool false] else zero
def TX(h:Ai)(size bytes:Nat)(zero:List Aa):Aa->Aa->Option (Ai×Aa)
 | .int .i64 n,.int .i64 c=>if 0<=n/\n<=c/\c.toNat*bytes<=AJ/\zero.length=size then
  some (h++[.cells (List.replicate c.toNat zero).flatten],.CT h.length 0 n.toNat size) else none
 |_,_=>none
def NP(size:Nat):Aa->Bool
 | .slnil=>true
 | .EI z=>z==size
 | .sl z []=>z==size
 |_=>false
def Kj(h:Ai)(size bytes:Nat)(s:Aa):Aa->Option (Ai×Aa)
 | .sl z Av=>if NP size s then(match Av with
   |[]=>some (h,s)
   |Av=>if z=size/\Av.length*bytes<=AJ then some (h++[.cells Av.flatten],.CT h.length 0 Av.length size) else none)
  else none
 | .slnil=>if NP size s then some (h,s) else none
 | .EI z=>if NP size s&&z==size then some (h,s) else none
 |_=>none
def Io(h:Ai):Aa->Option (Ai×Aa)
 | .str s=>if s.length<=AJ then some (h++[.cells (s.map λb=> .int .u8 b.toNat)],.CT h.length 0 s.length 1) else none
 |_=>none
def Cp(cs:List Aa)(z:Nat):Nat->Nat->List (List Aa)
 |_,0=>[]
 |off,n+1=>(cs.drop off).take z::Cp cs z (off+z) n
def KK(h:Ai):Aa->Option (Ai×Aa)
 | .CT id off n z=>match h[id]? with
  |some (.cells cs)=>if off+n*z<=cs.length then some (h.set id .Dw,.sl z (Cp cs z off n)) else none
  |_=>none
 |v=>some (h,v)
def Kk(h:Ai)(off:Nat)(p:Aa):Option Ai:=
 match p with
 | .ptr none=>some h
 | .ptr (some (id,o))=>match h[id]? with
  |some (.cells cs)=>match cs[o+off]? with
   |some v=>(KK h v).bind λ(h',v')=>match h'[id]? with
    |some (.cells GB)=>some (h'.set id (.cells (GB.set (o+off) v')))
    |_=>none
   |none=>none
  |_=>none
 |_=>none
def GX(h:Ai)(size:Nat):Aa->Option (List (List Aa))
 | .slnil=>some []
 | .EI z=>if z=size then some [] else none
 | .sl z Av=>if z=size then some Av else none
 | .str s=>if size=1 then some (CX s) else none
 | .CT id off n z=>if z=size then match h[id]? with
   |some (.cells cs)=>if off+n*z<=cs.length then some (Cp cs z off n) else none
   |_=>none
  else none
 |_=>none
def FN(h:Ai)(size bytes:Nat)(s x:Aa):Option (Ai×Aa):=
 match GX h size x with
 |none=>none
 |some []=>match s with
  | .slnil=>some (h,s)
  | .EI z=>if z=size then some (h,s) else none
  | .CT _ _ _ z=>if z=size then some (h,s) else none
  |_=>none
 |some Av=>match s with
  | .slnil=>if Av.length*bytes<=AJ then some (h++[.cells Av.flatten],.CT h.length 0 Av.length size) else none
  | .EI z=>if z=size/\Av.length*bytes<=AJ then some (h++[.cells Av.flatten],.CT h.length 0 Av.length size) else none
  | .CT id off n z=>match h[id]? with
   |some (.cells cs)=>if z=size then
     (if off+(n+Av.length)*z<=cs.length then some (h.set id (.cells (cs.take (off+n*z)++Av.flatten++cs.drop (off+(n+Av.length)*z))),.CT id off (n+Av.length) z)
     else if off=0/\n*z<=cs.length/\(n+Av.length)*bytes<=AJ then some (h.set id .Dw++[.cells (cs.take (n*z)++Av.flatten)],.CT h.length 0 (n+Av.length) z) else none)
    else none
   |_=>none
  |_=>none
def QC(h:Ai)(size bytes:Nat)(s x:Aa):Option Aa:=(GX h size x).bind (Dm size bytes s)
def gy(h:Ai)(size:Nat)(d x:Aa):Option (Ai×Aa):=
 match GX h size x with
 |none=>none
 |some Av=>match d with
  | .slnil=>if Av.length=0 then some (h,.int .i64 0) else none
  | .CT id off n z=>match h[id]? with
   |some (.cells cs)=>if z=size/\Av.length<=n/\off+n*z<=cs.length then some (h.set id (.cells (cs.take off++Av.flatten++cs.drop (off+Av.length*z))),.int .i64 Av.length) else none
   |_=>none
  |_=>none
def VX(h:Ai)(size:Nat)(zero:List Aa):Aa->Option (Ai×Aa)
 | .slnil=>some (h,.bool true)
 | .CT id off n z=>match h[id]? with
  |some (.cells cs)=>if z=size/\zero.length=size/\off+n*z<=cs.length then some (h.set id (.cells (cs.take off++(List.replicate n zero).flatten++cs.drop (off+n*z))),.bool true) else none
  |_=>none
 |_=>none
def kP(h:Ai)(size:Nat)(lo hi:Bool)(s:Aa)(as:List Aa):Option (Ai×Aa):=
 match s with
 | .CT id off n z=>match h[id]? with
  |some (.cells cs)=>if z=size/\hi=true/\off<=cs.length then(Dx lo hi ((cs.length-off)/z) as).bind λ(l,r)=>if l<(cs.length-off)/z then some (h,.CT id (off+l*z) (r-l) z) else none else none
  |_=>none
 |_=>none
def VY(size:Nat):List Aa->Bool
 |[s,.int _ l,.int _ r,.int _ m]=>match s with
  | .CT _ _ n z=>z=size&&decide (0<=l)&&decide (l<=r)&&decide (r<=m)&&decide (m<=n)
  | .sl z Av=>z=size&&decide (0<=l)&&decide (l<=r)&&decide (r<=m)&&decide (m<=Av.length)
  |_=>false
 |_=>false
def H0(k:Int):List (Aa×Aa)->Nat->Option (Option (Nat×Aa))
 |[],_=>some none
 |(.int .i64 t,v)::es,i=>if k=t then some (some (i,v)) else H0 k es (i+1)
 |_,_=>none
def S9(zero:Aa)(ok:Bool):Option (Nat×Aa)->Aa
 |some (_,v)=>if ok then .tuple [v,.bool true] else v
 |none=>if ok then .tuple [zero,.bool false] else zero
def kQ(h:Ai)(zero:Aa)(ok:Bool)(m k:Aa):Option (Ai×Aa):=
 match m,k with
 | .map none,.int .i64 _=>some (h,S9 zero ok none)
 | .map (some id),.int .i64 n=>match h[id]? with
  |some (.map es)=>(H0 n es 0).map λr=>(h,S9 zero ok r)
  |_=>none
 |_,_=>none
def U7(h:Ai)(zero m k:Aa):Option (Ai×Aa):=
 match m,k with
 | .map (some id),.int .i64 n=>match h[id]? with
  |some (.map es)=>(H0 n es 0).map λr=>match r with
   |some (i,v)=>(h,.tuple [v,.int .i64 i])
   |none=>(h.set id (.map (es++[(k,zero)])),.tuple [zero,.int .i64 es.length])
  |_=>none
 |_,_=>none
def QY(k:Aj):List (Aa×Aa)->Nat->Option (Option (Nat×Aa))
 |[],_=>some none
 |(.str t,v)::es,i=>if k=t then some (some (i,v)) else QY k es (i+1)
 |_,_=>none
def U8(h:Ai)(zero m k:Aa):Option (Ai×Aa):=
 match m,k with
 | .map (some id),.str n=>match h[id]? with
  |some (.map es)=>(QY n es 0).map λr=>match r with
   |some (i,v)=>(h,.tuple [v,.int .i64 i])
   |none=>(h.set id (.map (es++[(k,zero)])),.tuple [zero,.int .i64 es.length])
  |_=>none
 |_,_=>none
def RB(h:Ai)(m i v:Aa):Option (Ai×Aa):=
 match m,i with
 | .map (some id),.int .i64 n=>match h[id]? with
  |some (.map es)=>if 0<=n then match es[n.toNat]? with
   |some (k,_)=>some (h.set id (.map (es.set n.toNat (k,v))),.bool true)
   |none=>none
   else none
  |_=>none
 |_,_=>none
def vK(h:Ai)(m k v:Aa):Option (Ai×Aa):=
 match m,k with
 | .map (some id),.int .i64 n=>match h[id]? with
  |some (.map es)=>match H0 n es 0 with
   |some none=>some (h.set id (.map (es++[(.int .i64 n,v)])),.bool true)
   |_=>none
  |_=>none
 |_,_=>none
def PX(h:Ai):List Aa->Option (Ai×Aa)
 |[.slnil,.int .i64 i,.sl 1 [[.int .i64 x]]]=>if i=0 then some (h++[.cells [.int .i64 x]],.CT h.length 0 1 1) else none
 |[.CT id 0 n 1,.int .i64 i,.sl 1 [[.int .i64 x]]]=>match h[id]? with
  |some (.cells cs)=>if 0<=i/\i.toNat<=n/\n<=cs.length/\(n+1)*8<=AJ then some (h.set id .Dw++[.cells (cs.take i.toNat++[.int .i64 x]++(cs.take n).drop i.toNat)],.CT h.length 0 (n+1) 1) else none
  |_=>none
 |_=>none
def DZ(o:kM)(h:Ai)(args:List Aa):Option (Ai×Aa):=
 match o with
 | .copy size=>match args with
  |[d,x]=>gy h size d x
  |_=>none
 | .clear size zero=>match args with
  |[s]=>VX h size zero s
  |_=>none
 | .zC size lo hi=>match args with
  |s::as=>kP h size lo hi s as
  |_=>none
 | .pL size=>if VY size args then some (h,.bool true) else none
 | .aBJ t=>match args with
  |[v]=>some (h,.iface t v)
  |_=>none
 | .zD zero ok=>match args with
  |[m,k]=>kQ h zero ok m k
  |_=>none
 | .S7 zero=>match args with
  |[m,k]=>U7 h zero m k
  |_=>none
 | .aO zero=>match args with
  |[m,k]=>U8 h zero m k
  |_=>none
 | .NO=>match args with
  |[m,i,v]=>RB h m i v
  |_=>none
 | .gw=>match args with
  |[m,k,v]=>vK h m k v
  |_=>none
 | .gx=>PX h args
 | .VU g=>g h args
def EO(f:FuncId):FuncId:=if f<=99999 then f else f%100000
def Cc:Aa->List Aa->Option (FuncId×List Aa)
 | .func (.func f) first captured,args=>if f<=99999 then some (f,first++args++captured) else none
 |_,_=>none
abbrev Ju:=DV×List Aa×Ai
def IT.step(fn:FuncId->List Aa->IT)(rec:IT->Ai->Option Ju):IT->Ai->Option Ju
 | .ret x vs,h=>some (x,vs,h)
 | .fail,_=>none
 | .op o args k,h=>match Az o args with
  |some v=>IT.step fn rec (k v) h
  |none=>none
 | .cells n v k,h=>if v.cells.length=n then IT.step fn rec (k v.cells) h else none
 | .FH c t e,h=>match c with
  | .bool true=>IT.step fn rec t h
  | .bool false=>IT.step fn rec e h
  |_=>none
 | .load n p k,h=>match Bd h n p with
  |some v=>IT.step fn rec (k v) h
  |none=>none
 | .store n p v k,h=>match CK h n p v with
  |some h'=>IT.step fn rec k h'
  |none=>none
 | .alloc n v k,h=>match VW h n v with
  |some (h',p)=>IT.step fn rec (k p) h'
  |none=>none
 | .call f args k,h=>match rec (fn f args) h with
  |some (.ret,[r],h')=>IT.step fn rec (k r) h'
  |_=>none
 | .Iz g args k,h=>match Cc g args with
  |some (f,args)=>match rec (fn f args) h with
   |some (.ret,[r],h')=>IT.step fn rec (k r) h'
   |_=>none
  |none=>none
 | .Cb f args k,h=>if args.all Aa.Mk then match rec (fn f args) [] with
   |some (.ret,[r],_)=>if r.Mk then IT.step fn rec (k r) h else none
   |_=>none
  else none
 | .loop key init body k,h=>match IT.step fn rec (body init) h with
  |some (.normal,vs,h')=>rec (.loop key vs body k) h'
  |some (x,vs,h')=>IT.step fn rec (k x vs) h'
  |none=>none
 | .OR _ t k,h=>match IT.step fn rec t h with
  |some (x,vs,h')=>IT.step fn rec (k x vs) h'
  |none=>none
 | .same a b k,h=>if Aa.beq a b then IT.step fn rec k h else none
 | .O1 k,h=>IT.step fn rec (k (.map (some h.length))) (h++[.map []])
 | .Kc m key v k,h=>match QB h m key v with
  |some h'=>IT.step fn rec k h'
  |none=>none
 | .LO zero ok m key k,h=>match OB h zero ok m key with
  |some v=>IT.step fn rec (k v) h
  |none=>none
 | .make size bytes zero len cap k,h=>match TX h size bytes zero len cap with
  |some (h',v)=>IT.step fn rec (k v) h'
  |none=>none
 | .KJ size bytes s x k,h=>match Kj h size bytes s x with
  |some (h',v)=>IT.step fn rec (k v) h'
  |none=>none
 | .ET s k,h=>match Io h s with
  |some (h',v)=>IT.step fn rec (k v) h'
  |none=>none
 | .UD v k,h=>match KK h v with
  |some (h',v')=>IT.step fn rec (k v') h'
  |none=>none
 | .O2 off p k,h=>match Kk h off p with
  |some h'=>IT.step fn rec k h'
  |none=>none
 | .ID size bytes s x k,h=>match FN h size bytes s x with
  |some (h',v)=>IT.step fn rec (k v) h'
  |none=>none
 | .F6 size bytes s x k,h=>match QC h size bytes s x with
  |some v=>IT.step fn rec (k v) h
  |none=>none
 | .mem o args k,h=>match DZ o h args with
  |some (h',v)=>IT.step fn rec (k v) h'
  |none=>none
 | .vJ f args k,h=>match rec (fn f args) [] with
  |some (.ret,[r],_)=>if r.Mk then IT.step fn rec (k r) h else none
  |_=>none
def IT.run(fn:FuncId->List Aa->IT):Nat->IT->Ai->Option Ju
 |0=>λ_ _=>none
 |n+1=>IT.step fn (IT.run fn n)
end Go.Am
end
section
namespace Go.Am
inductive Sh where
 |val
 |BI
 |box (n:Nat) (BI:List Nat)
 deriving Inhabited
inductive vL where
 |O3|heap
 deriving DecidableEq,Inhabited
structure Fx where
 P:Program
 ę:FuncId->Nat->List (Nat×Sh)
 É:FuncId->Nat->Option (List (Nat×Sh))
 Ê:FuncId->Nat->Option (List (Nat×Sh))
 kind:FuncId->Nat->vL
 JA:FuncId->Bool
 Ë:FuncId->Bool
 zE:FuncId->Nat->Bool
 aBL:FuncId->Nat->Bool
 g_:FuncId->Bool
 h_:FuncId->List (Nat×Nat)
 GN:Nat->Option (List Aa)
 Ě:FuncId->Option (List Aa->IT)
 alt:FuncId->FuncId->FuncId
 MN:FuncId->Bool
inductive Eu where
 |pure (ws:List (Nat×Ec))
 |op (p:Rz) (args:List Aa) (dst:Option Nat) (BI:Bool) (Dr:Option (Nat×Aa))
 |box (n:Nat) (v:Aa) (dst:Nat)
 |closure (fn:Fn) (first captured:List Aa) (froze:List (Nat×List Aa)) (dst:Nat)
 |MO (s off n:Nat) (v:Aa) (BI:Bool) (Dr:Option (Nat×Aa)) (ver:Nat) (cells:List Aa) (owned:List Nat)
 |load (n:Option Nat) (p:Aa) (dst:Option Nat)
 |store (n:Nat) (p v:Aa)
 |alloc (n:Nat) (v:Aa) (dst:Option Nat)
 |call (f:FuncId) (args:List Aa) (dst:Option Nat)
 |Iz (g:Aa) (args:List Aa) (dst:Option Nat)
 |Cb (f:FuncId) (args:List Aa) (dst:Option Nat)
 |O1 (dst:Option Nat)
 |Kc (m k v:Aa)
 |LO (zero:Aa) (ok:Bool) (m k:Aa) (dst:Option Nat)
 |make (size bytes:Nat) (zero:List Aa) (len cap:Aa) (dst:Option Nat)
 |KJ (size bytes:Nat) (s x:Aa) (dst:Option Nat) (Dr:Option (Nat×Aa))
 |ID (size bytes:Nat) (s x:Aa) (dst:Option Nat)
 |F6 (size bytes:Nat) (s x:Aa) (dst:Option Nat) (Dr:Option (Nat×Aa))
 |ET (s:Aa) (dst:Option Nat)
 |YB (v:Aa) (dst:Option Nat)
 |mem (o:kM) (args:List Aa) (dst:Option Nat)
def BQ(P:Program)(t:TypeId):Option Nat:=(P.info? t).map (·.size)
def JB(P:Program)(t:TypeId):Option Nat:=(P.info? t).map (·.bytes)
def E5(P:Program)(t:TypeId):Option (Option Nat):=
 match P.underlying t with
 |some (.struct _)|some (.array _ _)=>(BQ P t).map some
 |some _=>some none
 |none=>none
def GC(P:Program)(t:TypeId):Option Aa:=((P.info? t).bind (·.zero)).bind KA
def VZ(rec:TypeId->Option (List FK)):List Field->Nat->Option (List FK)
 |[],_=>some []
 |f::fs,off=>if f.name≠ "_"/\f.offset=off then match rec f.type with
   |some ks=>(VZ rec fs (off+ks.length)).map (ks++·)
   |none=>none
  else none
def O4(P:Program):Nat->TypeId->Option (List FK)
 |0,_=>none
 |d+1,t=>
  let one (k:FK):Option (List FK):=if BQ P t=some 1 then some [k] else none
  match P.underlying t with
  |some .bool=>one .b
  |some (.int _)=>one .i
  |some .string=>one .s
  |some (.struct fs)=>match VZ (O4 P d) fs.toList 0 with
   |some ks=>if BQ P t=some ks.length/\P.stoodInHeld t=false then some ks else none
   |none=>none
  |_=>none
def H5(P:Program)(s:TypeId)(f:Nat):Option (Nat×Option Nat):=
 match P.underlying s with
 |some (.struct fs)=>match fs[f]? with
  |some fd=>match BQ P fd.type,E5 P fd.type with
   |some (_+1),some a=>some (fd.offset,a)
   |_,_=>none
  |none=>none
 |_=>none
def DS(C:Fx)(U:BF):Operand->Option Ec
 | .tmp t=>some (U.at t)
 | .const (.bool b)=>some (.OQ b)
 | .const (.slice none 0 0)=>some (.BI .slnil)
 | .const v=>(KA v).map .val
 | .global g=>(C.GN g).map λcs=> .val (.Cu cs)
 | .func f=>some (.val (.func (.func f) [] []))
def EK(C:Fx)(U:BF)(x:Operand):Option Aa:=(DS C U x).bind Ec.GW
def Bq(C:Fx)(U:BF):List Operand->Option (List Aa)
 |[]=>some []
 |x::xs=>match EK C U x,Bq C U xs with
  |some v,some vs=>some (v::vs)
  |_,_=>none
def ic(ops:List Oper)(d:Nat):Bool:=
 ops.any λo=>match o.op with
  | .call c=>(match c.callee with| .builtin .append=>true|_=>false)&&(match(c.args[0]?:Option Operand) with|some (.tmp t)=>t==d|_=>false)
  |_=>false
def H6:Ec->Option Ec
 | .val v=>some (.val v)
 | .OQ b=>some (.OQ b)
 | .BI v=>some (.val v)
 | .EY s o=>some (.EY s o)
 |_=>none
def RC(x:Operand)(v:Aa):List (Nat×Ec):=
 match x with
 | .tmp s=>[(s,.val v)]
 |_=>[]
def Kl(C:Fx)(U:BF)(x:Operand)(d:Nat)(take:Bool):Option Eu:=
 match x,DS C U x with
 | .tmp s,some (.box _ _ _)=>some (.pure [(d,.EY s 0)])
 | .const _,some sl=>some (.pure [(d,sl)])
 |x,some (.BI v)=>if take then some (.pure (RC x v++[(d,.BI v)])) else(H6 (.BI v)).map λs=> .pure [(d,s)]
 |_,some s=>(H6 s).map λs=> .pure [(d,s)]
 |_,none=>none
def V0(cs:List Aa):List Nat:=(List.range cs.length).filter λi=>match cs.getD i .nilIface with| .slnil=>true|_=>false
def MP(U:BF)(ds:List Nat):Bool:=U.all λs=>match s with| .EY s _=> !ds.contains s|_=>true
def BF.drop(U:BF)(ds:List Nat):BF:=match ds with|[]=>U|ds=>U.map λs=>match s with| .EY s o=>if ds.contains s then .undef else .EY s o|s=>s
def TY(C:Fx)(fid:FuncId)(t:TypeId)(v:Aa)(d:Nat):Option Eu:=
 match BQ C.P t with
 |none=>none
 |some n=>if n=0 then none else match C.kind fid d with
  | .O3=>some (.box n v d)
  | .heap=>some (.alloc n v (some d))
inductive ě where
 |O3 (s off ver:Nat) (cells:List Aa) (BI:List Nat)
 |ptr (p:Aa)
def FO(C:Fx)(U:BF)(x:Operand):Option ě:=
 match x,DS C U x with
 | .tmp s,some (.box ver cs ow)=>some (.O3 s 0 ver cs ow)
 |_,some (.EY s o)=>match U.at s with
  | .box ver cs ow=>some (.O3 s o ver cs ow)
  |_=>none
 |_,some s=>s.GW.map .ptr
 |_,none=>none
def C3(U:BF):Operand->Option (Nat×Aa)
 | .tmp s=>match U.at s with
  | .BI v=>some (s,v)
  |_=>none
 |_=>none
def KL(C:Fx)(U:BF)(x:Operand):Bool:=match DS C U x with|some (.BI _)=>true|_=>false
def Ld(C:Fx)(U:BF)(t:TypeId)(x:Operand)(d:Nat)(take:Bool):Option Eu:=
 match E5 C.P t,FO C U x with
 |some n,some (.ptr p)=>some (.load n p (some d))
 |some none,some (.O3 s o ver cs ow)=>
  if o<cs.length then
   let v:=cs.getD o .nilIface
   if ow.contains o&& !(ow.erase o).contains o&&take then some (.pure [(s,.box (ver+1) cs (ow.erase o)),(d,.BI v)])
   else some (.pure [(d,.val v)])
  else none
 |some (some n),some (.O3 _ o _ cs _)=>if o+n<=cs.length then some (.pure [(d,.val (.agg ((cs.drop o).take n)))]) else none
 |_,_=>none
def I1(C:Fx)(U:BF)(t:TypeId)(x y:Operand):Option Eu:=
 match BQ C.P t,E5 C.P t,FO C U x,EK C U y with
 |some (n+1),_,some (.ptr p),some v=>some (.store (n+1) p v)
 |some (n+1),some a,some (.O3 s o ver cs ow),some v=>
  if o+(n+1)<=cs.length then
   let BI:=a.isNone&&KL C U y
   some (.MO s o (n+1) v BI (if BI then C3 U y else none) ver cs ow)
  else none
 |_,_,_,_=>none
def Ta(P:Program)(t:TypeId)(neg:Bool)(u:TypeDesc):Option Rz:=
 match u with
 | .bool=>some (.beq neg)
 | .struct _=>if P.eqGuardType P.depth t=false then(O4 P 20 t).map (.geq neg) else none
 | .pointer e=>if(BQ P e).getD 0=0 then none else some (.Ė neg)
 | .slice _=>some (.Fe neg .sl)
 | .func _ _ _=>some (.Fe neg .fn)
 | .map _ _=>some (.Fe neg .mp)
 |_=>none
def PY(P:Program)(op:BinOp)(t:TypeId):Option Rz:=
 match P.underlying t with
 |some (.int _)=>some (.int op)
 |some .string=>some (.str op)
 |some u=>match op with
  | .eql=>Ta P t false u
  | .neq=>Ta P t true u
  |_=>none
 |none=>none
def Tb(p:Rz)(dst:Option Nat):Option (List Aa)->Option Eu
 |some args=>some (.op p args dst false none)
 |none=>none
def JC(P:Program)(t:TypeId):List (Nat×Operand)->Option (List (Nat×Nat))
 |[]=>some []
 |(i,_)::rest=>match P.underlying t with
  |some (.struct fs)=>match fs[i]? with
   |some f=>match BQ P f.type,JC P t rest with
    |some n,some r=>some ((f.offset,n)::r)
    |_,_=>none
   |none=>none
  |some (.array len e)=>if i<len then match BQ P e,JC P t rest with
    |some n,some r=>some ((i*n,n)::r)
    |_,_=>none
   else none
  |_=>none
def LP(P:Program)(t:TypeId):Bool:=
 match P.info? t with
 |some i=>match i.zero with
  |some z=>z.cells.size==i.size
  |none=>false
 |none=>false
def U9(P:Program)(t:TypeId):Bool:=
 match P.underlying t with
 |some (.struct fs)=>fs.toList.all λf=>(BQ P f.type).isSome
 |some (.array _ e)=>(BQ P e).isSome
 |_=>false
def Tc(o:kM)(dst:Option Nat):Option (List Aa)->Option Eu
 |some args=>some (.mem o args dst)
 |none=>none
def QZ(C:Fx)(fid:FuncId)(U:BF)(c:Call)(dst:Option Nat):Option Eu:=
 match c.callee with
 | .builtin .len=>match c.argTypes[0]? with
  |some t=>match C.P.underlying t with
   |some .string=>Tb (.len true) dst (Bq C U c.args.toList)
   |some (.slice _)=>Tb (.len false) dst (Bq C U c.args.toList)
   |_=>none
  |none=>none
 | .builtin .append=>match c.argTypes[0]?,c.argTypes[1]?,c.args.toList with
  |some t,some t',[s,x]=>match C.P.underlying t,C.P.underlying t' with
   |some (.slice e),some (.slice _)|some (.slice e),some .string=>match BQ C.P e,JB C.P e with
    |some (n+1),some (b+1)=>if LP C.P e then match Bq C U [s,x] with
      |some [v,u]=>if KL C U s then
        (if(dst.map (C.zE fid)).getD false then some (.KJ (n+1) (b+1) v u dst (C3 U s))
        else if(dst.map (C.aBL fid)).getD false then some (.F6 (n+1) (b+1) v u dst (C3 U s))
        else some (.op (.append (n+1) (b+1)) [v,u] dst true (C3 U s)))
       else if(dst.map (C.zE fid)).getD false then some (.ID (n+1) (b+1) v u dst) else none
      |_=>none
     else none
    |_,_=>none
   |_,_=>none
  |_,_,_=>none
 | .builtin .copy=>match c.argTypes[0]?,c.argTypes[1]?,c.args.toList with
  |some t,some t',[s,x]=>match C.P.underlying t,C.P.underlying t' with
   |some (.slice e),some (.slice _)|some (.slice e),some .string=>match BQ C.P e with
    |some (n+1)=>Tc (.copy (n+1)) dst (Bq C U [s,x])
    |_=>none
   |_,_=>none
  |_,_,_=>none
 | .builtin .clear=>match c.argTypes[0]?,c.args.toList with
  |some t,[s]=>match C.P.underlying t with
   |some (.slice e)=>match BQ C.P e,GC C.P e with
    |some (n+1),some z=>Tc (.clear (n+1) z.cells) dst (Bq C U [s])
    |_,_=>none
   |_=>none
  |_,_=>none
 | .builtin .max=>if c.args.size=2 then Tb (.Lc true) dst (Bq C U c.args.toList) else none
 | .builtin .min=>if c.args.size=2 then Tb (.Lc false) dst (Bq C U c.args.toList) else none
 | .value (.func f)=>if C.MN f then(match c.args.toList with
  |[s,i,v]=>if KL C U v then Tc .gx dst (Bq C U [s,i,v]) else none
  |_=>none) else if EO (C.alt fid f)=f then(Bq C U c.args.toList).map λargs=>if C.Ë (C.alt fid f) then .Cb (C.alt fid f) args dst else .call (C.alt fid f) args dst else none
 | .value g=>match EK C U g,Bq C U c.args.toList with
  |some g,some args=>some (.Iz g args dst)
  |_,_=>none
 |_=>none
def V4(C:Fx)(src dst:TypeId):Option (Option Rz):=
 match C.P.underlying src,C.P.underlying dst with
 |some (.int _),some (.int k)=>some (some (.conv k))
 |some (.int _),some .string=>some (some .i2s)
 |some .string,some .string=>some none
 |some (.slice e),some .string=>match C.P.underlying e with
  |some (.int .u8)=>some (some .YB)
  |_=>none
 |some .string,some (.slice e)=>match C.P.underlying e,BQ C.P e,JB C.P e with
  |some (.int .u8),some 1,some 1=>some (some .s2b)
  |_,_,_=>none
 |_,_=>none
def FQ(C:Fx)(U:BF):List Operand->Option (List Aa×List (Nat×List Aa))
 |[]=>some ([],[])
 |x::xs=>match FQ C U xs with
  |none=>none
  |some (vs,fz)=>match x,DS C U x with
   | .tmp s,some (.box _ cs _)=>if(fz.map (·.1)).contains s then none else some (.Cu cs::vs,(s,cs)::fz)
   |_,some sl=>match sl.GW with
    |some v=>some (v::vs,fz)
    |none=>none
   |_,none=>none
def FT(C:Fx)(fid:FuncId)(ops:List Oper)(U:BF)(o:Oper):Option Eu:=
 match o.op with
 | .move x=>match o.dst with
  |some d=>Kl C U x d (ic ops d)
  |none=>none
 | .assign x=>match o.dst with
  |some d=>Kl C U x d true
  |none=>none
 | .pick c a b=>match DS C U c,o.dst with
  |some (.OQ true),some d=>Kl C U a d false
  |some (.OQ false),some d=>Kl C U b d false
  |_,dst=>Tb .pick dst (Bq C U [c,a,b])
 | .alloc t=>match o.dst,GC C.P t with
  |some d,some z=>match C.kind fid d with
   | .O3=>if BQ C.P t=some z.cells.length/\z.cells≠[] then some (.pure [(d,.box 0 z.cells (V0 z.cells))]) else none
   |_=>TY C fid t z d
  |_,_=>none
 | .box t x=>match o.dst,EK C U x with
  |some d,some v=>TY C fid t v d
  |_,_=>none
 | .build t parts=>match GC C.P t,JC C.P t parts.toList with
  |some z,some ps=>if U9 C.P t then Tb (.C2 z.cells ps) o.dst (Bq C U (parts.toList.map (·.2))) else none
  |_,_=>none
 | .buildSlice t len parts=>match C.P.underlying t with
  |some (.slice e)=>match BQ C.P e with
   |some (n+1)=>if parts.toList.map (·.1)=List.range len/\LP C.P e=true then if len=0/\(o.dst.map (C.zE fid)).getD false=true then some (.op (.EI (n+1)) [] o.dst true none) else(Bq C U (parts.toList.map (·.2))).map λargs=> .op (.DX (n+1)) args o.dst true none else none
   |_=>none
  |_=>none
 | .load t x=>match o.dst with
  |some d=>Ld C U t x d (ic ops d)
  |none=>none
 | .store t x y=>match o.dst with
  |none=>I1 C U t x y
  |some _=>none
 | .nilCheck x=>match x,DS C U x,o.dst with
  | .tmp s,some (.box _ _ _),some d=>some (.pure [(d,.EY s 0)])
  |_,some (.EY s k),some d=>some (.pure [(d,.EY s k)])
  |x,_,dst=>Tb .I6 dst (Bq C U [x])
 | .binOp op t x y _=>match PY C.P op t with
  |some p=>Tb p o.dst (Bq C U [x,y])
  |none=>none
 | .unOp op _ x=>Tb (.un op) o.dst (Bq C U [x])
 | .convert src dst x=>match V4 C src dst with
  |some (some .YB)=>(EK C U x).map λv=> .YB v o.dst
  |some (some .s2b)=>if(o.dst.map (C.zE fid)).getD false then(EK C U x).map λv=> .ET v o.dst else Tb .s2b o.dst (Bq C U [x])
  |some (some p)=>Tb p o.dst (Bq C U [x])
  |_=>none
 | .makeFunc fn first captured=>match o.dst,Bq C U first.toList,FQ C U captured.toList with
  |some d,some a,some (b,fz)=>some (.closure fn a b fz d)
  |_,_,_=>none
 | .makeMap _ none=>some (.O1 o.dst)
 | .makeSlice t l c=>match C.P.underlying t with
  |some (.slice e)=>match BQ C.P e,JB C.P e,GC C.P e,EK C U l,EK C U c with
   |some (n+1),some (b+1),some z,some l,some c=>some (.make (n+1) (b+1) z.cells l c o.dst)
   |_,_,_,_,_=>none
  |_=>none
 | .insert t m k v| .mapUpdate t m k v=>match C.P.underlying t with
  |some (.map kt _)=>match o.dst,C.P.underlying kt,Bq C U [m,k,v] with
   |none,some .string,some [m,k,v]=>some (.Kc m k v)
   |none,some (.int .i64),some [m,k,v]=>some (.mem .gw [m,k,v] none)
   |_,_,_=>none
  |_=>none
 | .lookup t m k ok=>match C.P.underlying t with
  |some (.map kt e)=>match C.P.underlying kt,GC C.P e,Bq C U [m,k] with
   |some .string,some z,some [m,k]=>some (.LO z ok m k o.dst)
   |some (.int .i64),some z,some [m,k]=>some (.mem (.zD z ok) [m,k] o.dst)
   |_,_,_=>none
  |_=>none
 | .slice t x (some lo) (some hi) (some mx)=>match C.P.underlying t with
  |some (.slice e)=>match BQ C.P e with
   |some (n+1)=>Tc (.pL (n+1)) o.dst (Bq C U [x,lo,hi,mx])
   |_=>none
  |_=>none
 | .makeInterface t x=>match C.P.underlying t with
  |some (.interface _)=>none
  |some _=>Tc (.aBJ t) o.dst (Bq C U [x])
  |none=>none
 | .mapEntry t m k=>match C.P.underlying t with
  |some (.map kt e)=>match C.P.underlying kt,GC C.P e with
   |some (.int .i64),some z=>Tc (.S7 z) o.dst (Bq C U [m,k])
   |some .string,some z=>Tc (.aO z) o.dst (Bq C U [m,k])
   |_,_=>none
  |_=>none
 | .entryStore _ m s v=>match o.dst with
  |none=>Tc .NO none (Bq C U [m,s,v])
  |some _=>none
 | .slice t x lo hi none=>match C.P.underlying t with
  |some .string=>Tb (.PU 0 true lo.isSome hi.isSome) o.dst (Bq C U (x::(lo.toList++hi.toList)))
  |some (.slice e)=>match BQ C.P e with
   |some (n+1)=>if(o.dst.map (C.zE fid)).getD false then Tc (.zC (n+1) lo.isSome hi.isSome) o.dst (Bq C U (x::(lo.toList++hi.toList)))
    else Tb (.PU (n+1) false lo.isSome hi.isSome) o.dst (Bq C U (x::(lo.toList++hi.toList)))
   |_=>none
  |_=>none
 | .fieldAddr t x f=>match H5 C.P t f,o.dst with
  |some (off,_),some d=>match x,DS C U x with
   | .tmp s,some (.box _ _ _)=>some (.pure [(d,.EY s off)])
   |_,some (.EY s k)=>some (.pure [(d,.EY s (k+off))])
   |x,_=>Tb (.KI off) (some d) (Bq C U [x])
  |_,_=>none
 | .field t x f=>match H5 C.P t f with
  |some (off,g)=>Tb (.part off g) o.dst (Bq C U [x])
  |none=>none
 | .indexAddr t x i=>match C.P.underlying t with
  |some (.slice e)=>match BQ C.P e with
   |some (n+1)=>Tb (.FG (n+1)) o.dst (Bq C U [x,i])
   |_=>none
  |some (.array len e)=>match BQ C.P e with
   |some (n+1)=>if len<=1 then none else Tb (.TW len (n+1)) o.dst (Bq C U [x,i])
   |_=>none
  |_=>none
 | .index t x i=>match C.P.underlying t with
  |some .string=>Tb .YA o.dst (Bq C U [x,i])
  |some (.array len e)=>match BQ C.P e,E5 C.P e with
   |some (n+1),some g=>Tb (.ė len (n+1) g) o.dst (Bq C U [x,i])
   |_,_=>none
  |_=>none
 | .extract x i=>Tb (.ext i) o.dst (Bq C U [x])
 | .call c=>QZ C fid U c o.dst
 |_=>none
def BF.D4(U:BF):List (Nat×Ec)->BF
 |[]=>U
 |(s,x)::ws=>BF.D4 (U.set s x) ws
def BF.put(U:BF)(dst:Option Nat)(x:Ec):BF:=
 match dst with
 |some d=>U.set d x
 |none=>U
def BF.Dr(U:BF):Option (Nat×Aa)->BF
 |some (s,v)=>U.set s (.val v)
 |none=>U
def V5(n:Nat)(cs:List Aa):List Aa:=(List.range n).map λi=>cs.getD i .nilIface
def V6(cs:List Aa)(off n:Nat)(vs:List Aa):List Aa:=cs.take off++vs++cs.drop (off+n)
def RD(owned:List Nat)(off n:Nat)(BI:Bool):List Nat:=
 let rest:=owned.filter λo=> !(off<=o&&o<off+n)
 if BI then off::rest else rest
def Eu.LQ(C:Fx)(U:BF)(K:BF->IT):Eu->IT
 | .pure ws=>K (U.D4 ws)
 | .op p args dst BI e=> .op p args λv=>K ((U.Dr e).put dst (if BI then .BI v else .val v))
 | .box n v d=> .cells n v λcs=>K (U.set d (.box 0 (V5 n cs) []))
 | .closure fn a b fz d=>K ((U.D4 (fz.map λ(s,cs)=>(s,.val (.Cu cs)))).set d (.val (.func fn a b)))
 | .MO s off n v BI e ver cells owned=> .cells n v λvs=>K ((U.Dr e).set s (.box (ver+1) (V6 cells off n (V5 n vs)) (RD owned off n BI)))
 | .load n p dst=> .load n p λv=>K (U.put dst (.val v))
 | .store n p v=> .store n p v (K U)
 | .alloc n v dst=> .alloc n v λp=>K (U.put dst (.val p))
 | .call f args dst=> .call f args λr=>K (U.put dst (if C.JA f then .BI r else .val r))
 | .Iz g args dst=> .Iz g args λr=>K (U.put dst (.val r))
 | .Cb f args dst=> .Cb f args λr=>K (U.put dst (.val r))
 | .O1 dst=> .O1 λm=>K (U.put dst (.val m))
 | .Kc m k v=> .Kc m k v (K U)
 | .LO z ok m k dst=> .LO z ok m k λv=>K (U.put dst (.val v))
 | .make z b zero l c dst=> .make z b zero l c λv=>K (U.put dst (.val v))
 | .KJ z b s x dst e=> .KJ z b s x λv=>K ((U.Dr e).put dst (.val v))
 | .ID z b s x dst=> .ID z b s x λv=>K (U.put dst (.val v))
 | .F6 z b s x dst e=> .F6 z b s x λv=>K ((U.Dr e).put dst (.BI v))
 | .ET s dst=> .ET s λv=>K (U.put dst (.val v))
 | .YB v dst=> .UD v λv=> .op .YB [v] λu=>K (U.put dst (.val u))
 | .mem o args dst=> .mem o args λv=>K (U.put dst (if o.aBK then .undef else .val v))
def Eu.news:Eu->List Nat
 | .pure ws=>ws.filterMap λ(s,x)=>match x with| .box 0 _ _=>some s|_=>none
 | .box _ _ d=>[d]
 | .closure _ _ _ fz _=>fz.map (·.1)
 |_=>[]
inductive aBN where
 |Na (run:Bool)
 |ask (pM:Nat) (v:Aa) (want:Bool)
 |Ĝ
def Ip(ops:List Oper)(U:BF)(o:Oper):aBN:=
 match o.guard with
 |none=> .Na true
 |some (j,want)=>match(ops[j]?).bind (·.dst) with
  |some s=>match U.at s with
   | .OQ b=> .Na (b==want)
   | .val v=> .ask s v want
   | .skip=> .Na false
   |_=> .Ĝ
  |none=> .Ĝ
def ij(C:Fx)(fid:FuncId)(ops:List Oper)(U:BF)(o:Oper)(K:BF->IT):IT:=
 match FT C fid ops U o with
 |some r=>r.LQ C (U.drop r.news) K
 |none=> .fail
def Td(C:Fx)(fid:FuncId)(ops:List Oper)(U:BF)(o:Oper)(K:BF->IT):IT:=
 match Ip ops U o with
 | .Na true=>ij C fid ops U o K
 | .Na false=>K (U.put o.dst .skip)
 | .ask s v want=>
  let t:=if want then ij C fid ops (U.set s (.OQ true)) o K else K (BF.put (U.set s (.OQ true)) o.dst .skip)
  let e:=if want then K (BF.put (U.set s (.OQ false)) o.dst .skip) else ij C fid ops (U.set s (.OQ false)) o K
  .FH v t e
 | .Ĝ=> .fail
def Te:FuncId->Bool
 |_=>false
def RE(C:Fx)(U:BF)(o:Oper):List (Nat×List Aa):=
 match o.op with
 | .call c=>(match c.callee with
  | .value (.func f)=>if Te f then(match FQ C U c.args.toList with|some (_,fz)=>fz|none=>[]) else[]
  |_=>[])
 |_=>[]
def ĝ(C:Fx)(U:BF)(o:Oper):BF:=(U.drop ((RE C U o).map (·.1))).D4 ((RE C U o).map λ(s,cs)=>(s,.val (.Cu cs)))
def vM(C:Fx)(fid:FuncId)(ops:List Oper):List Oper->BF->(BF->IT)->IT
 |[],U,K=>K U
 |o::rest,U,K=>Td C fid ops (ĝ C U o) o λU=>vM C fid ops rest U K
end Go.Am
end
section
namespace Go.Am
def Oper.UE(o:Oper):List Nat:=o.after.toList.filterMap λe=>if Region.binds .any e then some e.on else none
def bit(i:Nat):Nat:=2^i
def KN(DE:List Nat):List Oper->List Nat
 |[]=>DE
 |o::rest=>KN (DE++[(Oper.UE o).foldl (λm e=>m|||bit e|||DE.getD e 0) 0]) rest
def V8(ops:List Oper):List Nat:=KN [] ops
def Ed(an:List Nat)(i j:Nat):Bool:=(an.getD j 0).testBit i
def Ì(o:Oper):Bool:=
 match o.op with
 | .call c=>(match c.callee with| .builtin .copy| .builtin .clear=>true| .builtin _=>false|_=>true)
 | .store _ _ _| .insert _ _ _ _| .mapUpdate _ _ _ _| .makeMap _ _| .makeSlice _ _ _| .mapEntry _ _ _| .entryStore _ _ _ _=>true
 |_=>false
def V9(all:List Oper)(DE:List Nat):List Oper->List Nat
 |[]=>DE
 |o::rest=>V9 all (DE++[(Oper.UE o).foldl (λm e=>Nat.max m (DE.getD e 0+(match all[e]? with|some x=>if Ì x then 1 else 0|none=>0))) 0]) rest
def wg(ops:List Oper):List Nat:=
 let st:=V9 ops [] ops
 let idx:=List.range ops.length
 let Ru:=λi=>match ops[i]? with|some o=>Ì o|none=>false
 (List.range (ops.length+1)).flatMap λs=>(idx.filter λi=>st.getD i 0==s&& !Ru i)++(idx.filter λi=>st.getD i 0==s&&Ru i)
structure FP where
 rs:List Nat
 wf:List Nat
 hl:Bool
 Ru:Bool
 news:List Nat
 lr:List Nat
 Tf:Bool
 deriving Inhabited
def JD(xs:List Operand):List Nat:=xs.filterMap λ| .tmp t=>some t|_=>none
def NQ(C:Fx)(U:BF)(x:Operand):Option Nat:=
 match FO C U x with
 |some (.O3 s _ _ _ _)=>some s
 |_=>none
def HJ(C:Fx)(U:BF)(o:Oper):List Nat:=
 match o.op with
 | .load _ x=>(NQ C U x).toList
 | .store _ x _=>(NQ C U x).toList
 | .makeFunc _ _ captured=>JD captured.toList
 |_=>[]
def Eu.wf:Eu->List Nat
 | .pure ws=>ws.map (·.1)
 | .op _ _ dst _ a=>dst.toList++(a.map (·.1)).toList
 | .box _ _ d=>[d]
 | .closure _ _ _ fz d=>d::fz.map (·.1)
 | .MO s _ _ _ _ a _ _ _=>s::(a.map (·.1)).toList
 | .load _ _ dst| .alloc _ _ dst| .call _ _ dst| .Iz _ _ dst| .Cb _ _ dst| .O1 dst| .LO _ _ _ _ dst| .make _ _ _ _ _ dst| .ET _ dst| .YB _ dst| .ID _ _ _ _ dst| .mem _ _ dst=>dst.toList
 | .KJ _ _ _ _ dst a| .F6 _ _ _ _ dst a=>dst.toList++(a.map (·.1)).toList
 | .store _ _ _| .Kc _ _ _=>[]
def Eu.hl:Eu->Bool
 | .load _ _ _| .LO _ _ _ _ _=>true
 |_=>false
def Eu.Ru:Eu->Bool
 | .store _ _ _| .alloc _ _ _| .call _ _ _| .Iz _ _ _| .O1 _| .Kc _ _ _| .make _ _ _ _ _ _| .KJ _ _ _ _ _ _| .ET _ _| .YB _ _| .ID _ _ _ _ _| .F6 _ _ _ _ _ _| .mem _ _ _=>true
 |_=>false
def Ff(ops:List Oper)(o:Oper):List Nat:=
 match o.guard with
 |none=>[]
 |some (j,_)=>((ops[j]?).bind (·.dst)).toList
def Va(xs:List Ec):List Nat:=xs.filterMap λ| .EY t _=>some t|_=>none
def Eu.vN:Eu->List Nat
 | .pure ws=>Va (ws.map (·.2))
 |_=>[]
def Eu.Tf(U:BF)(r:Eu):Bool:=
 MP U r.news&&match r with
  | .load _ _ (some d)=>decide (d<U.length)
  | .load _ _ none| .LO _ _ _ _ _| .closure _ _ _ (_::_) _=>false
  |_=>true
def UF(C:Fx)(ops:List Oper)(U:BF)(o:Oper)(r:Option Eu):FP:=
 match r with
 |none=>{rs:=Ff ops o,wf:=o.dst.toList,hl:=false,Ru:=false,news:=[],lr:=Va (o.dst.toList.map U.at),Tf:=true}
 |some r=>{rs:=Ff ops o++JD o.op.operands.toList++HJ C U o,wf:=r.wf++o.dst.toList,hl:=r.hl,Ru:=r.Ru,news:=r.news,lr:=Va ((r.wf++o.dst.toList).map U.at)++r.vN,Tf:=r.Tf U}
def TZ(a b:List Nat):Bool:=a.any λx=>b.contains x
def FP.apart(x y:FP):Bool:= !TZ x.wf (y.rs++y.wf)&& !TZ y.wf x.rs&& !TZ x.lr y.news&& !TZ y.lr x.news
def Q0(x y:FP):Bool:=x.Tf&&y.Tf&&x.apart y&& !(x.Ru&&y.Ru)&& !(x.Ru&&y.hl)
def Wa(n:Nat)(an:List Nat)(a:List (Nat×FP)):Bool:=
 go a&&(List.range n).all (λi=>(a.map (·.1)).contains i)
where
 go:List (Nat×FP)->Bool
  |[]=>true
  |(i,f)::rest=>rest.all (λ(j,g)=>i != j&& !Ed an j i&&(Ed an i j||Q0 f g))&&go rest
structure Kg where
 idx:Nat
 n:Option Nat
 p:Aa
 v:Aa
def RF(an:List Nat)(i:Nat):List Kg->IT->IT
 |[],t=>t
 |f::fs,t=>if Ed an f.idx i then RF an i fs t else .load f.n f.p λv=> .same f.v v (RF an i fs t)
def Mr(i:Nat)(r:Eu)(U:BF)(fl:List Kg):List Kg:=
 match r with
 | .load n p (some d)=>match U.at d with
  | .val v=>{idx:=i,n,p,v}::fl
  |_=>fl
 |_=>fl
def RG(ops:List Oper)(i:Nat):Bool:=ops.any λo=>match o.guard with|some (j,_)=>j==i|none=>false
def vO(d:Option Nat)(U:BF)(K:BF->IT):IT:=
 match d with
 |none=>K U
 |some d=>match U.at d with
  | .val v=> .FH v (K (U.set d (.OQ true))) (K (U.set d (.OQ false)))
  |_=>K U
def Q1(C:Fx)(fid:FuncId)(ops:List Oper)(an:List Nat):List Nat->List (Nat×FP)->List Kg->BF->(BF->IT)->IT
 |[],a,_,U,K=>if Wa ops.length an a.reverse then K U else .fail
 |i::rest,a,fl,U,K=>
  match ops[i]? with
  |none=> .fail
  |some o=>match Ip ops U o with
   | .Na true=>match FT C fid ops U o with
    |none=> .fail
    |some r=>r.LQ C (U.drop r.news) λc=>
     let next:=vO (if RG ops i then o.dst else none) c λb=>Q1 C fid ops an rest ((i,UF C ops U o (some r))::a) (Mr i r c fl) b K
     if r.Ru then RF an i fl next else next
   | .Na false=>Q1 C fid ops an rest ((i,UF C ops U o none)::a) fl (U.put o.dst .skip) K
   |_=> .fail
def Ee(ops:List Oper)(o:Oper):List Nat:=
 o.dst.toList++match o.op with
  | .move (.tmp s)=>(match o.dst with|some d=>if ic ops d then[s] else[]|none=>[])
  | .assign (.tmp s)=>[s]
  | .store _ _ (.tmp s)=>[s]
  | .call c=>(match c.callee with| .builtin .append=>JD c.args.toList| .value (.func f)=>if Te f then JD c.args.toList else[]|_=>[])
  | .makeFunc _ _ captured=>JD captured.toList
  |_=>[]
def CY:Code->List Nat
 | .region _ ops _=>ops.toList.flatMap (Ee ops.toList)
 | .seq a b=>CY a++CY b
 | .cond _ a b=>CY a++CY b
 | .block _ b=>CY b
 | .loop b=>CY b
 | .scope b=>CY b
 |_=>[]
def B3:Code->List Nat
 | .region _ ops _=>ops.toList.flatMap (Ff ops.toList)
 | .seq a b=>B3 a++B3 b
 | .cond (.tmp s) a b=>s::(B3 a++B3 b)
 | .cond _ a b=>B3 a++B3 b
 | .block _ b=>B3 b
 | .loop b=>B3 b
 | .scope b=>B3 b
 |_=>[]
def BF.clear(U:BF):List Nat->BF
 |[]=>U
 |s::ss=>BF.clear (U.set s .undef) ss
def Gl:Code->Option Nat
 | .region id _ _=>some id
 | .seq a b=>(Gl a).orElse λ_=>Gl b
 | .cond _ a b=>(Gl a).orElse λ_=>Gl b
 | .block _ b| .loop b| .scope b=>Gl b
 |_=>none
def Wb(U:BF):List (Nat×Sh)->Option (List Aa)
 |[]=>some []
 |(s,a)::l=>
  let v:=match a,U.at s with
   | .val,x=>x.GW
   | .BI,.BI v=>some v
   | .box n ow,.box _ cs NN=>if cs.length=n/\ow.all (NN.contains ·) then some (.agg cs) else none
   |_,_=>none
  match v,Wb U l with
  |some v,some vs=>some (v::vs)
  |_,_=>none
def Zi:Ec->Nat
 | .box ver _ _=>ver
 |_=>0
def I7(vs:List Aa):List (Nat×Sh)->Nat->BF->(BF->IT)->IT
 |[],_,U,K=>K U
 |(s,.val)::l,i,U,K=>I7 vs l (i+1) (U.set s (.val (vs.getD i .nilIface))) K
 |(s,.BI)::l,i,U,K=>I7 vs l (i+1) (U.set s (.BI (vs.getD i .nilIface))) K
 |(s,.box n ow)::l,i,U,K=> .cells n (vs.getD i .nilIface) λcs=>I7 vs l (i+1) (U.set s (.box (Zi (U.at s)+1) (V5 n cs) ow)) K
def pO(U:BF)(a:BF)(l:List (Nat×Sh)):Bool:=
 (List.range U.length).all λs=>match U.at s with
  | .box ver _ _=>(l.map (·.1)).contains s||(match a.at s with| .box FU _ _=>FU==ver|_=>false)
  | .EY _ _=>(l.map (·.1)).contains s||(match a.at s with| .EY _ _=>true|_=>false)
  |_=>true
def Ds(b:BF)(l:List (Nat×Sh))(x:DV)(a:BF):IT:=
 if pO b a l then match Wb a l with
  |some vs=> .ret x vs
  |none=> .fail
 else .fail
def ir(l:List (Nat×Sh))(ws:List Nat)(U:BF):Bool:=l.all λ(s,_)=>ws.contains s||(match U.at s with| .box _ _ _=>true|_=>false)
def aQ(ops:List Oper):Bool:=ops.zipIdx.all λ(o,i)=>(Oper.UE o).all λe=>decide (e<i)
def RH(C:Fx)(fid:FuncId)(ops:List Oper)(draw:Bool)(U:BF)(K:BF->IT):IT:=
 if draw then(if aQ ops then Q1 C fid ops (V8 ops) (wg ops) [] [] U K else .fail) else vM C fid ops ops U K
def aR(key:Nat)(U:BF)(ws:List Nat)(l:List (Nat×Sh))(t:(DV->BF->IT)->IT)(K:DV->BF->IT):IT:=
 let b:=U.clear ws
 if ir l ws U then .OR key (t λx a=>Ds b l x a) λx vs=>I7 vs l 0 b λa=>K x a else .fail
def Í(K:DV->BF->IT):DV->BF->IT
 | .normal,_=> .fail
 | .exit i,U=>K (.exit i) U
 | .ret,U=>K .ret U
def FV(C:Fx)(fid:FuncId):Code->BF->(DV->BF->IT)->IT
 | .skip,U,K=>K .normal U
 | .region id ops draw,U,K=>match C.Ê fid id with
  |none=>RH C fid ops.toList draw U (K .normal)
  |some l=>aR (200000+id) U (ops.toList.flatMap (Ee ops.toList)++ops.toList.flatMap (Ff ops.toList)) l (λK=>RH C fid ops.toList draw U (K .normal)) K
 | .seq a b,U,K=>FV C fid a U λx d=>match x with
  | .normal=>FV C fid b d K
  | .exit i=>K (.exit i) d
  | .ret=>K .ret d
 | .cond c a b,U,K=>match c,DS C U c with
  |_,some (.OQ true)=>FV C fid a U K
  |_,some (.OQ false)=>FV C fid b U K
  | .tmp s,some (.val v)=>match C.É fid s with
   |none=> .FH v (FV C fid a (U.set s (.OQ true)) K) (FV C fid b (U.set s (.OQ false)) K)
   |some l=>aR (100000+s) U (s::(CY a++CY b++B3 a++B3 b)) l (λK=> .FH v (FV C fid a (U.set s (.OQ true)) K) (FV C fid b (U.set s (.OQ false)) K)) K
  |_,_=> .fail
 | .block id b,U,K=>FV C fid b U λx d=>match x with
  | .normal=>K .normal d
  | .exit i=>if i=id then K .normal d else K (.exit i) d
  | .ret=>K .ret d
 | .loop b,U,K=>
  let l:=C.ę fid ((Gl b).getD 0)
  let ws:=CY b++B3 b
  let f:=U.clear ws
  if ir l ws U then match Wb U l with
   |none=> .fail
   |some init=> .loop ((Gl b).getD 0) init (λvs=>I7 vs l 0 f λe=>FV C fid b e λx d=>Ds f l x d) λx vs=>I7 vs l 0 f λd=>Í K x d
  else .fail
 | .exit id,U,K=>K (.exit id) U
 | .ret,U,K=>K .ret U
 | .scope b,U,K=>FV C fid b U K
 | .label _,U,K=>K .normal U
 |_,_,_=> .fail
def Gb(C:Fx)(U:BF):List ResultVar->List Aa->(List Aa->IT)->IT
 |[],DE,K=>K DE.reverse
 | .tmp t::rs,DE,K=>match(U.at t).GW with
  |some v=>Gb C U rs (v::DE) K
  |none=> .fail
 | .cell a t::rs,DE,K=>match E5 C.P t,FO C U (.tmp a) with
  |some none,some (.O3 _ o _ cs _)=>if o<cs.length then Gb C U rs (cs.getD o .nilIface::DE) K else .fail
  |some (some n),some (.O3 _ o _ cs _)=>if o+n<=cs.length then Gb C U rs (.agg ((cs.drop o).take n)::DE) K else .fail
  |some n,some (.ptr p)=> .load n p λv=>Gb C U rs (v::DE) K
  |_,_=> .fail
def PZ(U:BF):List ResultVar->Bool
 |[.tmp t]=>match U.at t with| .BI _=>true|_=>false
 |_=>false
def vP(C:Fx)(U:BF):List (Nat×Nat)->IT->IT
 |[],t=>t
 |(s,off)::l,t=>match(U.at s).GW with
  |some p=> .O2 off p (vP C U l t)
  |none=> .fail
def O5:List Aa->List Aa->(List Aa->IT)->IT
 |[],DE,K=>K DE.reverse
 |v::vs,DE,K=> .UD v λv=>O5 vs (v::DE) K
def T0:List Aa->IT
 |[v]=> .ret .ret [v]
 |vs=> .ret .ret [.tuple vs]
def kR(C:Fx)(fid:FuncId)(fn:Func)(U:BF):IT:=
 if C.JA fid&& !PZ U fn.results.toList then .fail
 else vP C U (C.h_ fid) (Gb C U fn.results.toList [] λvs=>if C.g_ fid then O5 vs [] T0 else T0 vs)
def iu(C:Fx)(fid:FuncId)(fn:Func)(args:List Aa):IT:=
 match fn.body with
 |none=> .fail
 |some c=>FV C fid c (args.map .val++List.replicate (fn.ntmps-args.length) .undef) λx U=>match x with
  | .normal=>kR C fid fn U
  | .exit _=> .fail
  | .ret=>kR C fid fn U
def aBO(C:Fx)(fid:FuncId)(args:List Aa):IT:=
 match C.P.funcs[EO fid]? with
 |some fn=>if fn.name== "runtime.NumGoroutine" then .fail else iu C fid fn args
 |none=> .fail
def BZ(C:Fx)(fid:FuncId)(args:List Aa):IT:=
 match C.Ě fid with
 |some p=>p args
 |none=>aBO C fid args
abbrev g(l:List Aa)(i:Nat):Aa:=l.getD i .nilIface
abbrev I(n:Int):Aa:= .int .i64 n
abbrev S(s:Aj):Aa:= .str s
abbrev tt:Aa:= .bool true
abbrev ff:Aa:= .bool false
abbrev Fx.run(C:Fx):Nat->IT->Ai->Option Ju:=IT.run (BZ C)
end Go.Am
end
end
section
namespace Go.Am
def IT.Jh{fn:FuncId->List Aa->IT}{rec aBP:IT->Ai->Option Ju}(hr:∀t h r,rec t h=some r->aBP t h=some r):
  ∀(t:IT) (h:Ai) (r:Ju),IT.step fn rec t h=some r->IT.step fn aBP t h=some r:=by
 intro t;induction t with
 |ret x vs=>intro h r d;simpa[IT.step] using d
 |fail=>intro h r d;simp[IT.step] at d
 |op o args k ih=>
  intro h r d;simp only[IT.step] at d⊢;split at d;.exact ih _ _ _ d
  .cases d
 |cells n v k ih=>
  intro h r d;simp only[IT.step] at d⊢;split at d;.rename_i hc;rw[Ag hc];exact ih _ _ _ d
  .cases d
 |FH c t e i q=>
  intro h r d;simp only[IT.step] at d⊢;split at d;.exact i _ _ d
  .exact q _ _ d
  .cases d
 |load n p k ih=>
  intro h r d;simp only[IT.step] at d⊢;split at d;.exact ih _ _ _ d
  .cases d
 |store n p v k ih=>
  intro h r d;simp only[IT.step] at d⊢;split at d;.exact ih _ _ d
  .cases d
 |alloc n v k ih=>
  intro h r d;simp only[IT.step] at d⊢;split at d;.exact ih _ _ _ d
  .cases d
 |call f args k ih=>
  intro h r d;simp only[IT.step] at d⊢;split at d;.rename_i h1;rw[hr _ _ _ h1];exact ih _ _ _ d
  .cases d
 |Iz g args k ih=>
  intro h r d;simp only[IT.step] at d⊢;split at d
  .rename_i f a ht;split at d;.rename_i h1;simp only[hr _ _ _ h1];exact ih _ _ _ d
   .cases d
  .cases d
 |Cb f args k ih=>
  intro h r d;simp only[IT.step] at d⊢;split at d
  .rename_i Iq;rw[Ag Iq];split at d
   .rename_i h1;rw[hr _ _ _ h1];split at d;.rename_i fo;simp only[fo,BE];exact ih _ _ _ d
    .cases d
   .cases d
  .cases d
 |loop key init body k l j=>
  intro h r d;simp only[IT.step] at d⊢;split at d;.rename_i h1;rw[l _ _ _ h1];exact hr _ _ _ d
  .rename_i x vs h1 hne hx;rw[l _ _ _ hx];cases x<;>first|exact j _ _ _ _ d|exact absurd rfl hne
  .cases d
 |OR key t k i j=>
  intro h r d;simp only[IT.step] at d⊢;split at d;.rename_i h1;rw[i _ _ h1];exact j _ _ _ _ d
  .cases d
 |same a b k ih=>
  intro h r d;simp only[IT.step] at d⊢;split at d;.rename_i hc;rw[Ag hc];exact ih _ _ d
  .cases d
 |O1 k ih=>intro h r d;simp only[IT.step] at d⊢;exact ih _ _ _ d
 |Kc m key v k ih=>
  intro h r d;simp only[IT.step] at d⊢;split at d;.exact ih _ _ d
  .cases d
 |LO z ok m key k ih=>
  intro h r d;simp only[IT.step] at d⊢;split at d;.exact ih _ _ _ d
  .cases d
 |make size bytes zero len cap k ih=>
  intro h r d;simp only[IT.step] at d⊢;split at d;.exact ih _ _ _ d
  .cases d
 |KJ size bytes s x k ih=>
  intro h r d;simp only[IT.step] at d⊢;split at d;.exact ih _ _ _ d
  .cases d
 |ET s k ih=>
  intro h r d;simp only[IT.step] at d⊢;split at d;.exact ih _ _ _ d
  .cases d
 |UD v k ih=>
  intro h r d;simp only[IT.step] at d⊢;split at d;.exact ih _ _ _ d
  .cases d
 |O2 off p k ih=>
  intro h r d;simp only[IT.step] at d⊢;split at d;.exact ih _ _ d
  .cases d
 |ID size bytes s x k ih=>
  intro h r d;simp only[IT.step] at d⊢;split at d;.exact ih _ _ _ d
  .cases d
 |F6 size bytes s x k ih=>
  intro h r d;simp only[IT.step] at d⊢;split at d;.exact ih _ _ _ d
  .cases d
 |mem o args k ih=>
  intro h r d;simp only[IT.step] at d⊢;split at d;.exact ih _ _ _ d
  .cases d
 |vJ f args k ih=>
  intro h r d;simp only[IT.step] at d⊢;split at d
  .rename_i h1;rw[hr _ _ _ h1];split at d;.rename_i fo;simp only[fo,BE];exact ih _ _ _ d
   .cases d
  .cases d
def IT.iv{fn:FuncId->List Aa->IT}:∀(n:Nat) (t:IT) (h:Ai) (r:Ju),IT.run fn n t h=some r->IT.run fn (n+1) t h=some r:=by
 intro n;induction n with
 |zero=>intro t h r a;simp[IT.run] at a
 |succ n ih=>intro t h r a;exact IT.Jh (λt h r=>ih t h r) t h r a
def IT.HM{fn:FuncId->List Aa->IT}{n m:Nat}(hnm:n<=m){t:IT}{h:Ai}{r:Ju}(a:IT.run fn n t h=some r):IT.run fn m t h=some r:=by
 induction hnm with
 |refl=>exact a
 |step _ ih=>exact IT.iv _ _ _ _ ih
abbrev JE:=DV->List Aa->Ai->Prop
def W(C:Fx)(t:IT)(Q:JE)(h:Ai):Prop:=∃n x vs h',C.run n t h=some (x,vs,h')/\Q x vs h'
section
variable{C:Fx}{Q:JE}{h:Ai}
def W.mono{t:IT}{Q':JE}(hw:W C t Q h)(hq:∀x vs h',Q x vs h'->Q' x vs h'):W C t Q' h:=
 let⟨n,x,vs,h',hr,q⟩:=hw;⟨n,x,vs,h',hr,hq _ _ _ q⟩
def Î{x:DV}{vs:List Aa}(hq:Q x vs h):W C (.ret x vs) Q h:=⟨1,x,vs,h,rfl,hq⟩
def CP{t:IT}(a:∃n x vs h',IT.step (BZ C) (C.run n) t h=some (x,vs,h')/\Q x vs h'):W C t Q h:=
 let⟨n,x,vs,h',hr,q⟩:=a;⟨n+1,x,vs,h',hr,q⟩
def W.succ{t:IT}(a:W C t Q h):∃n x vs h',IT.step (BZ C) (C.run n) t h=some (x,vs,h')/\Q x vs h':=by
 obtain⟨n,x,vs,h',hr,q⟩:=a;cases n with
 |zero=>simp[Fx.run,IT.run] at hr
 |succ n=>exact⟨n,x,vs,h',hr,q⟩
def aBQ{o:Rz}{args:List Aa}{k:Aa->IT}{v:Aa}(hv:Az o args=some v)(hw:W C (k v) Q h):W C (.op o args k) Q h:=by obtain⟨n,x,vs,h',hr,q⟩:=hw.succ;exact CP ⟨n,x,vs,h',by simp only[IT.step,hv];exact hr,q⟩
def vQ{n:Nat}{v:Aa}{k:List Aa->IT}(hv:v.cells.length=n)(hw:W C (k v.cells) Q h):W C (.cells n v k) Q h:=by obtain⟨m,x,vs,h',hr,q⟩:=hw.succ;exact CP ⟨m,x,vs,h',by simp only[IT.step,hv,BE];exact hr,q⟩
def vR{b:Bool}{t e:IT}(ht:b=true->W C t Q h)(he:b=false->W C e Q h):W C (.FH (.bool b) t e) Q h:=by
 cases b with
 |true=>obtain⟨m,x,vs,h',hr,q⟩:=(ht rfl).succ;exact CP ⟨m,x,vs,h',by simp only[IT.step];exact hr,q⟩
 |false=>obtain⟨m,x,vs,h',hr,q⟩:=(he rfl).succ;exact CP ⟨m,x,vs,h',by simp only[IT.step];exact hr,q⟩
def iw{n:Option Nat}{p v:Aa}{k:Aa->IT}(hv:Bd h n p=some v)(hw:W C (k v) Q h):W C (.load n p k) Q h:=by obtain⟨m,x,vs,h',hr,q⟩:=hw.succ;exact CP ⟨m,x,vs,h',by simp only[IT.step,hv];exact hr,q⟩
def vS{n:Nat}{p v:Aa}{k:IT}{h1:Ai}(hv:CK h n p v=some h1)(hw:W C k Q h1):W C (.store n p v k) Q h:=by obtain⟨m,x,vs,h',hr,q⟩:=hw.succ;exact CP ⟨m,x,vs,h',by simp only[IT.step,hv];exact hr,q⟩
def vT{n:Nat}{v:Aa}{k:Aa->IT}(hv:v.cells.length=n)(hw:W C (k (.ptr (some (h.length,0)))) Q (h++[.cells v.cells])):W C (.alloc n v k) Q h:=by obtain⟨m,x,vs,h',hr,q⟩:=hw.succ;exact CP ⟨m,x,vs,h',by simp only[IT.step,VW,hv,BE];exact hr,q⟩
def ix{a b:Aa}{k:IT}(hv:Aa.beq a b=true)(hw:W C k Q h):W C (.same a b k) Q h:=by obtain⟨m,x,vs,h',hr,q⟩:=hw.succ;exact CP ⟨m,x,vs,h',by simp only[IT.step,hv,BE];exact hr,q⟩
def iy{k:Aa->IT}(hw:W C (k (.map (some h.length))) Q (h++[.map []])):W C (.O1 k) Q h:=by obtain⟨m,x,vs,h',hr,q⟩:=hw.succ;exact CP ⟨m,x,vs,h',by simp only[IT.step];exact hr,q⟩
def iz{m key v:Aa}{k:IT}{h1:Ai}(hv:QB h m key v=some h1)(hw:W C k Q h1):W C (.Kc m key v k) Q h:=by obtain⟨n,x,vs,h',hr,q⟩:=hw.succ;exact CP ⟨n,x,vs,h',by simp only[IT.step,hv];exact hr,q⟩
def i_{z:Aa}{ok:Bool}{m key v:Aa}{k:Aa->IT}(hv:OB h z ok m key=some v)(hw:W C (k v) Q h):W C (.LO z ok m key k) Q h:=by obtain⟨n,x,vs,h',hr,q⟩:=hw.succ;exact CP ⟨n,x,vs,h',by simp only[IT.step,hv];exact hr,q⟩
def pP{size bytes:Nat}{zero:List Aa}{len cap v:Aa}{k:Aa->IT}{h1:Ai}(hv:TX h size bytes zero len cap=some (h1,v))(hw:W C (k v) Q h1):W C (.make size bytes zero len cap k) Q h:=by obtain⟨n,x,vs,h',hr,q⟩:=hw.succ;exact CP ⟨n,x,vs,h',by simp only[IT.step,hv];exact hr,q⟩
def vU{size bytes:Nat}{s x v:Aa}{k:Aa->IT}{h1:Ai}(hv:Kj h size bytes s x=some (h1,v))(hw:W C (k v) Q h1):W C (.KJ size bytes s x k) Q h:=by obtain⟨n,x,vs,h',hr,q⟩:=hw.succ;exact CP ⟨n,x,vs,h',by simp only[IT.step,hv];exact hr,q⟩
def Wc{s v:Aa}{k:Aa->IT}{h1:Ai}(hv:Io h s=some (h1,v))(hw:W C (k v) Q h1):W C (.ET s k) Q h:=by obtain⟨n,x,vs,h',hr,q⟩:=hw.succ;exact CP ⟨n,x,vs,h',by simp only[IT.step,hv];exact hr,q⟩
def Ï{u v:Aa}{k:Aa->IT}{h1:Ai}(hv:KK h u=some (h1,v))(hw:W C (k v) Q h1):W C (.UD u k) Q h:=by obtain⟨n,x,vs,h',hr,q⟩:=hw.succ;exact CP ⟨n,x,vs,h',by simp only[IT.step,hv];exact hr,q⟩
def vV{off:Nat}{p:Aa}{k:IT}{h1:Ai}(hv:Kk h off p=some h1)(hw:W C k Q h1):W C (.O2 off p k) Q h:=by obtain⟨n,x,vs,h',hr,q⟩:=hw.succ;exact CP ⟨n,x,vs,h',by simp only[IT.step,hv];exact hr,q⟩
def ja{size bytes:Nat}{s x v:Aa}{k:Aa->IT}{h1:Ai}(hv:FN h size bytes s x=some (h1,v))(hw:W C (k v) Q h1):W C (.ID size bytes s x k) Q h:=by obtain⟨n,x,vs,h',hr,q⟩:=hw.succ;exact CP ⟨n,x,vs,h',by simp only[IT.step,hv];exact hr,q⟩
def Zj{size bytes:Nat}{s x v:Aa}{k:Aa->IT}(hv:QC h size bytes s x=some v)(hw:W C (k v) Q h):W C (.F6 size bytes s x k) Q h:=by obtain⟨n,x,vs,h',hr,q⟩:=hw.succ;exact CP ⟨n,x,vs,h',by simp only[IT.step,hv];exact hr,q⟩
def Ð{o:kM}{args:List Aa}{v:Aa}{k:Aa->IT}{h1:Ai}(hv:DZ o h args=some (h1,v))(hw:W C (k v) Q h1):W C (.mem o args k) Q h:=by obtain⟨n,x,vs,h',hr,q⟩:=hw.succ;exact CP ⟨n,x,vs,h',by simp only[IT.step,hv];exact hr,q⟩
def Ev(C:Fx)(f:FuncId)(args:List Aa)(h:Ai)(R:Aa->Ai->Prop):Prop:=
 W C (BZ C f args) (λx vs h'=>x= .ret/\∃r,vs=[r]/\R r h') h
def Ev.mono{f:FuncId}{args:List Aa}{R R':Aa->Ai->Prop}(hw:Ev C f args h R)(hr:∀r h',R r h'->R' r h'):Ev C f args h R':=
 W.mono hw λ_ _ _ ⟨hx,r,hv,hR⟩=>⟨hx,r,hv,hr _ _ hR⟩
def jb{f:FuncId}{args:List Aa}{k:Aa->IT}(hc:Ev C f args h λr h1=>W C (k r) Q h1):W C (.call f args k) Q h:=by obtain⟨n,x,vs,h1,hr,hx,r,hv,m,x',HB,h',Hn,q⟩:=hc;subst hx;subst hv;refine CP ⟨max n m,x',HB,h',?_,q⟩;have Ñ:=IT.HM (Hy n m) hr;have h2:=IT.HM (Bn (GP n m) (Fj _)) Hn;simp only[IT.step];simp only[Fx.run] at*;rw[Ñ];exact h2
def wh{f:FuncId}{args:List Aa}{k:Aa->IT}(ha:args.all Aa.Mk=true)(hc:Ev C f args [] λr _=>r.Mk=true/\W C (k r) Q h):W C (.Cb f args k) Q h:=by obtain⟨n,x,vs,h1,hr,hx,r,hv,Iq,m,x',HB,h',Hn,q⟩:=hc;subst hx;subst hv;refine CP ⟨max n m,x',HB,h',?_,q⟩;have Ñ:=IT.HM (Hy n m) hr;have h2:=IT.HM (Bn (GP n m) (Fj _)) Hn;simp only[IT.step,ha,BE];simp only[Fx.run] at*;rw[Ñ];simp only[Iq,BE];exact h2
def jc{key:Nat}{t:IT}{k:DV->List Aa->IT}(hw:W C t (λx vs h1=>W C (k x vs) Q h1) h):W C (.OR key t k) Q h:=by obtain⟨n,x,vs,h1,hr,a⟩:=hw.succ;obtain⟨m,x',HB,h',Hn,q⟩:=a.succ;refine CP ⟨max n m,x',HB,h',?_,q⟩;have c:=IT.Jh (λt h r=>IT.HM (fn:=BZ C) (Hy n m)) _ _ _ hr;have b:=IT.Jh (λt h r=>IT.HM (fn:=BZ C) (GP n m)) _ _ _ Hn;simp only[IT.step];simp only[Fx.run] at*;rw[c];exact b
end
end Go.Am
end
