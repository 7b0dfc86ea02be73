/- Lemmas -/
import GoSem.Step
set_option linter.all false
def Ab:=@Nat.le_refl
def Af:=@List.getElem?_eq_some_iff
def Ag:=@decide_eq_true
def Ah:=@List.getElem?_append_left
def Ai:=@List.length_append
def Aj:=@List.mem_append
def Ak:=@decide_eq_false
def Al:=@List.getElem?_set_ne
def An:=@List.getElem?_eq_getElem
def Ao:=@List.length_map
def Ap:=@List.drop_eq_getElem_cons
def Av:=@List.length_take
def Aw:=@List.mem_cons
def Ay:=@List.getElem_mem
def AB:=@List.getElem?_set_self
def AD:=@false_implies
def AE:=@List.length_cons
def AG:=@List.getD_eq_getElem?_getD
def AH:=@List.drop_of_length_le
def AK:=@true_implies
def AM:=@Array.getElem?_eq_some_iff
def AP:=@not_true_eq_false
def AR:=@List.length_singleton
def AS:=@not_false_eq_true
def AT:=@List.append_assoc
def AU:=@Nat.zero_le
def AV:=@List.take_succ_eq_append_getElem
def AY:=@List.length_nil
def AZ:=@List.mem_of_mem_take
def A0:=@List.take_append_of_le_length
def A4:=@Bool.and_eq_true
def A5:=@List.length_drop
def A6:=@Nat.lt_or_ge
def A7:=@List.take_of_length_le
def A8:=@List.append_nil
def Bb:=@List.mem_map
def Bc:=@List.mem_of_mem_drop
def Bd:=@List.map_cons
def Be:=@List.mem_singleton
def Bf:=@List.take_length
def Bi:=@List.getElem?_append_right
def Bl:=@List.take_append_drop
def Bn:=@Nat.le_trans
def Bp:=@Nat.add_zero
def Bu:=@List.filter_append
def Bw:=@List.nil_append
def Bx:=@Option.some.injEq
def By:=@Nat.zero_add
def Bz:=@Int.toNat_natCast
def BA:=@eq_true
def BB:=@of_decide_eq_true
def BD:=@Nat.add_mul
def BF:=@Option.map_some
def BG:=@Nat.min_eq_left
def BH:=@List.mem_append_right
def BI:=@List.set_append_right
def BK:=@List.Sublist.refl
def BM:=@if_true
def BQ:=@congrArg
def BT:=@List.size_toArray
def BU:=@List.nodup_append
def BV:=@List.mem_filter
def BW:=@List.nodup_cons
def BY:=@List.length_set
def B0:=@List.set_eq_take_append_cons_drop
def B5:=@List.mem_append_left
def Ca:=@List.take_sublist
def Cb:=@List.map_append
def Cd:=@Array.length_toList
def Cf:=@List.mem_filterMap
def Ci:=@decide_eq_true_eq
def Ck:=@Option.bind_some
def Co:=@List.getElem?_take
def Cp:=@Bool.false_eq_true
def Cq:=@List.length_pos_iff
def Cr:=@List.cons_append
def Cu:=@List.getElem?_drop
def Cx:=@List.mem_of_getElem?
def Cy:=@List.take_take
def CC:=@List.getElem?_take_of_lt
def CE:=@List.getElem?_map
def CF:=@List.flatten_cons
def CG:=@List.getElem?_of_mem
def CJ:=@Array.getElem?_eq_getElem
def CK:=@eq_self
def CQ:=@List.eq_nil_of_length_eq_zero
def CV:=@Nat.succ_pos
def C0:=@Option.some.inj
def C1:=@List.mem_take_iff_getElem
def Dc:=@List.all_eq_true
def Dd:=@Ne.symm
def Dm:=@List.mem_or_eq_of_mem_set
def Dq:=@List.cons.injEq
def Ds:=@List.reverse_reverse
def Dw:=@Nat.lt_irrefl
def Dz:=@List.map_nil
def DM:=@Nat.sub_self
def DU:=@if_false
def DX:=@decide_eq_decide
def DY:=@List.not_mem_nil
def DZ:=@List.reverse_append
def D4:=@List.getElem?_eq_none
def Ea:=@List.filter_cons_of_pos
def Ed:=@List.drop_drop
def Ee:=@Nat.mul_le_mul_right
def Ek:=@List.getElem_map
def Ez:=@Nat.one_mul
def EA:=@List.reverse_cons
def EB:=@Decidable.not_not
def ED:=@List.filterMap_append
def EO:=@List.take_left
def E5:=@Option.getD_some
def E6:=@List.filter_cons_of_neg
def E7:=@List.drop_length
def Fm:=@List.reverse_singleton
def Ft:=@Nat.le_succ
def Fu:=@Nat.zero_lt_one
def FE:=@List.length_replicate
def FF:=@List.singleton_append
def FL:=@Nat.eq_zero_or_pos
def Gm:=@Nat.mul_one
def GU:=@Array.toList_append
def GV:=@List.filter_eq_self
def Hn:=@Array.getD_eq_getD_getElem?
def Ho:=@decide_false
def Hp:=@List.map_set
def Hq:=@Prod.mk.injEq
def Hr:=@List.map_take
def Ht:=@Nat.le_max_right
def Hu:=@List.filter_cons
def HJ:=@Array.ext'
def HX:=@List.extract_eq_take_drop
def HZ:=@Nat.le_max_left
def H5:=@List.find?_cons
def Ie:=@bne_self_eq_false
def If:=@List.getElem_take
def Iz:=@Int.toNat_of_nonneg
def IA:=@List.filterMap_cons
def IU:=@Array.eq_empty_of_size_eq_zero
def IV:=@List.drop_append
def IW:=@Nat.le_mul_of_pos_right
def IX:=@List.getElem?_cons_zero
def IY:=@List.length_eq_zero_iff
def Jc:=@decide_true
def Ji:=@Nat.lt_of_lt_of_le
def Jj:=@Option.map_eq_some_iff
def Jk:=@List.countP_append
def Jy:=@Bool.or_eq_true
def Jz:=@List.take_left'
def JE:=@Bool.false_or
def JR:=@List.set_getElem_self
def J5:=@Array.size_append
def J6:=@List.getElem_drop
def Kz:=@List.drop_zero
def KA:=@Array.replicate_succ
def KB:=@Array.replicate_zero
def KC:=@Bool.or_eq_false_iff
def Lc:=@List.toList_toArray
def Ld:=@List.flatten_append
def Lf:=@List.replicate_succ
def Lg:=@List.append_toArray
def Lh:=@List.length_reverse
def Li:=@List.findIdx?_eq_some_iff_findIdx_eq
def Lj:=@List.countP_eq_zero
def LV:=@List.map_drop
def LW:=@or_false
def LY:=@List.drop_left'
def LZ:=@Bool.eq_iff_iff
def Mb:=@List.find?_eq_none
def Mc:=@Nat.add_sub_cancel
def Mf:=@Int.le_refl
def M5:=@Nat.le_of_eq
def M6:=@Nat.zero_mul
def M7:=@List.take_zero
def M8:=@and_true
def M9:=@true_and
def Na:=@List.push_toArray
def Nb:=@Bool.not_false
def Nc:=@List.set_set
def Nd:=@List.getElem_cons_succ
def NF:=@Array.getElem?_modify
def NG:=@Nat.eq_of_beq_eq_true
def NV:=@Array.toList_map
def NW:=@List.any_eq_true
def Ox:=@Array.toList_extract
def Oy:=@List.mem_cons_of_mem
def Oz:=@List.drop_append_of_le_length
def PE:=@List.take_succ_cons
def PF:=@List.getD_cons_zero
def PG:=@List.getElem_of_mem
def PL:=@Nat.add_comm
def PM:=@Nat.ne_of_lt
def PO:=@Bool.true_or
def QN:=@Array.ext_getElem?
def QP:=@Int.fdiv_eq_ediv_of_nonneg
def QQ:=@List.drop_left
def Rv:=@Option.filter_eq_some_iff
def Rw:=@List.mem_of_find?_eq_some
def Rx:=@List.getLast?_eq_getElem?
def RT:=@List.ext_getElem?
def SC:=@Nat.add_assoc
def SD:=@List.all_cons
def SE:=@Bool.or_false
def SF:=@Bool.bne_true
def SG:=@List.getElem_append_left
def SH:=@List.any_cons
def T0:=@List.getElem?_cons_succ
def T1:=@List.reverse_nil
def T2:=@Nat.lt_succ_self
def T3:=@Option.bind_eq_some_iff
def T4:=@Nat.add_sub_cancel_left
def T5:=@Int.eq_ofNat_of_zero_le
def T6:=@List.map_reverse
def T7:=@List.mem_reverse
def U9:=@List.sublist_cons_self
def Va:=@Nat.le_of_lt
def Vb:=@Int.not_lt
def VP:=@List.find?_some
def VQ:=@UInt8.toNat_inj
def Wl:=@List.dropLast_eq_take
def Ze:=@Bool.false_and
def Z5:=@List.take_set_of_le
def Z6:=@Array.getElem?_push
def Z7:=@List.map_congr_left
def Z8:=@List.drop_take_self
def Z9:=@List.mem_map_of_mem
def cV:=@Bool.true_and
def jN:=@List.set_cons_zero
def oQ:=@and_self
def oR:=@dif_pos
def oS:=@List.find?_append
def oT:=@List.any_nil
def pA:=@Array.getElem?_setIfInBounds_ne
def pB:=@List.takeWhile_append_dropWhile
def uT:=@List.zipIdx_cons
def uU:=@List.take_append
def uV:=@List.mem_flatMap
def uW:=@Option.getD_none
def uX:=@false_and
def px:=@List.foldl_cons
def rj:=@eq_comm
def rk:=@Iff.rfl
def ø:=@beq_iff_eq
def ù:=@Bool.and_false
def ú:=@List.nodup_nil
def Ď:=@List.getElem_append_right
def ď:=@List.append_eq_append_iff
def aAI:=@Bool.not_true
def aAJ:=@List.take_add
def aAK:=@List.eq_of_mem_replicate
def aAL:=@Int.lt_irrefl
def aGi:=@List.length_eq_one_iff
def aGj:=@List.getElem_cons_zero
def aGK:=@List.contains_iff_mem
def aGL:=@Array.getElem?_toList
def aGM:=@List.length_filter_le
def aGN:=@List.dropLast_sublist
def aKc:=@List.getElem?_append
def aKd:=@List.range_eq_range'
def aKe:=@List.pairwise_append
def aKf:=@List.set_append_left
def aKg:=@List.mem_of_getLast?
def aLj:=@Nat.add_sub_cancel'
def aLk:=@List.drop_set_of_lt
def aLl:=@Array.toList_zipIdx
def aLm:=@List.getD_cons_succ
def aPV:=@List.zip_cons_cons
def aPW:=@Array.foldl_toList
def aPX:=@List.pairwise_cons
def aPY:=@Option.isSome_some
def aPZ:=@List.findIdx?_cons
def aP0:=@Option.toList_some
def aP1:=@List.map_singleton
def aP2:=@decide_eq_true_iff
def aRS:=@Bool.not_eq_true'
def aRT:=@List.getElem?_set
def aRU:=@List.pairwise_map
def aRW:=@List.any_eq_false
def aRX:=@List.drop_sublist
def aRY:=@List.find?_isSome
def aRZ:=@List.getLast?_nil
def aR0:=@Nat.lt_trichotomy
abbrev aWM:List UInt8:=[97,116,116,114,105,98,117,116,101,78,97,109,101,32,97,116,116,114,105,98,117,116,101,84,121,112,101,32,98,97,115,101,70,114,101,113,117,101,110,99,121,32,98,97,115,101,80,114,111,102,105,108,101,32,99,97,108,99,77,111,100,101,32,99,108,105,112,80,97,116,104,85,110,105,116,115,32,100,105,102,102,117,115,101,67,111,110,115,116,97,110,116,32,101,100,103,101,77,111,100,101,32,102,105,108,116,101,114,85,110,105,116,115,32,103,108,121,112,104,82,101,102,32,103,114,97,100,105,101,110,116,84,114,97,110,115,102,111,114,109,32,103,114,97,100,105,101,110,116,85,110,105,116,115,32,107,101,114,110,101,108,77,97,116,114,105,120,32,107,101,114,110,101,108,85,110,105,116,76,101,110,103,116,104,32,107,101,121,80,111,105,110,116,115,32,107,101,121,83,112,108,105,110,101,115,32,107,101,121,84,105,109,101,115,32,108,101,110,103,116,104,65,100,106,117,115,116,32,108,105,109,105,116,105,110,103,67,111,110,101,65,110,103,108,101,32,109,97,114,107,101,114,72,101,105,103,104,116,32,109,97,114,107,101,114,85,110,105,116,115,32,109,97,114,107,101,114,87,105,100,116,104,32,109,97,115,107,67,111,110,116,101,110,116,85,110,105,116,115,32,109,97,115,107,85,110,105,116,115,32,110,117,109,79,99,116,97,118,101,115,32,112,97,116,104,76,101,110,103,116,104,32,112,97,116,116,101,114,110,67,111,110,116,101,110,116,85,110,105,116,115,32,112,97,116,116,101,114,110,84,114,97,110,115,102,111,114,109,32,112,97,116,116,101,114,110,85,110,105,116,115,32,112,111,105,110,116,115,65,116,88,32,112,111,105,110,116,115,65,116,89,32,112,111,105,110,116,115,65,116,90,32,112,114,101,115,101,114,118,101,65,108,112,104,97,32,112,114,101,115,101,114,118,101,65,115,112,101,99,116,82,97,116,105,111,32,112,114,105,109,105,116,105,118,101,85,110,105,116,115,32,114,101,102,88,32,114,101,102,89,32,114,101,112,101,97,116,67,111,117,110,116,32,114,101,112,101,97,116,68,117,114,32,114,101,113,117,105,114,101,100,69,120,116,101,110,115,105,111,110,115,32,114,101,113,117,105,114,101,100,70,101,97,116,117,114,101,115,32,115,112,101,99,117,108,97,114,67,111,110,115,116,97,110,116,32,115,112,101,99,117,108,97,114,69,120,112,111,110,101,110,116,32,115,112,114,101,97,100,77,101,116,104,111,100,32,115,116,97,114,116,79,102,102,115,101,116,32,115,116,100,68,101,118,105,97,116,105,111,110,32,115,116,105,116,99,104,84,105,108,101,115,32,115,117,114,102,97,99,101,83,99,97,108,101,32,115,121,115,116,101,109,76,97,110,103,117,97,103,101,32,116,97,98,108,101,86,97,108,117,101,115,32,116,97,114,103,101,116,88,32,116,97,114,103,101,116,89,32,116,101,120,116,76,101,110,103,116,104,32,118,105,101,119,66,111,120,32,118,105,101,119,84,97,114,103,101,116,32,120,67,104,97,110,110,101,108,83,101,108,101,99,116,111,114,32,121,67,104,97,110,110,101,108,83,101,108,101,99,116,111,114,32,122,111,111,109,65,110,100,80,97,110]
abbrev aWN:List UInt8:=[97,100,100,114,101,115,115,32,97,112,112,108,101,116,32,97,114,101,97,32,97,114,116,105,99,108,101,32,97,115,105,100,101,32,98,97,115,101,32,98,97,115,101,102,111,110,116,32,98,103,115,111,117,110,100,32,98,108,111,99,107,113,117,111,116,101,32,98,111,100,121,32,98,114,32,98,117,116,116,111,110,32,99,97,112,116,105,111,110,32,99,101,110,116,101,114,32,99,111,108,32,99,111,108,103,114,111,117,112,32,100,100,32,100,101,116,97,105,108,115,32,100,105,114,32,100,105,118,32,100,108,32,100,116,32,101,109,98,101,100,32,102,105,101,108,100,115,101,116,32,102,105,103,99,97,112,116,105,111,110,32,102,105,103,117,114,101,32,102,111,111,116,101,114,32,102,111,114,109,32,102,114,97,109,101,32,102,114,97,109,101,115,101,116,32,104,49,32,104,50,32,104,51,32,104,52,32,104,53,32,104,54,32,104,101,97,100,32,104,101,97,100,101,114,32,104,103,114,111,117,112,32,104,114,32,104,116,109,108,32,105,102,114,97,109,101,32,105,109,103,32,105,110,112,117,116,32,107,101,121,103,101,110,32,108,105,32,108,105,110,107,32,108,105,115,116,105,110,103,32,109,97,105,110,32,109,97,114,113,117,101,101,32,109,101,110,117,32,109,101,116,97,32,110,97,118,32,110,111,101,109,98,101,100,32,110,111,102,114,97,109,101,115,32,110,111,115,99,114,105,112,116,32,111,98,106,101,99,116,32,111,108,32,112,32,112,97,114,97,109,32,112,108,97,105,110,116,101,120,116,32,112,114,101,32,115,99,114,105,112,116,32,115,101,97,114,99,104,32,115,101,99,116,105,111,110,32,115,101,108,101,99,116,32,115,111,117,114,99,101,32,115,116,121,108,101,32,115,117,109,109,97,114,121,32,116,97,98,108,101,32,116,98,111,100,121,32,116,100,32,116,101,109,112,108,97,116,101,32,116,101,120,116,97,114,101,97,32,116,102,111,111,116,32,116,104,32,116,104,101,97,100,32,116,105,116,108,101,32,116,114,32,116,114,97,99,107,32,117,108,32,119,98,114,32,120,109,112]
abbrev aWO:List UInt8:=[97,108,116,71,108,121,112,104,32,97,108,116,71,108,121,112,104,68,101,102,32,97,108,116,71,108,121,112,104,73,116,101,109,32,97,110,105,109,97,116,101,67,111,108,111,114,32,97,110,105,109,97,116,101,77,111,116,105,111,110,32,97,110,105,109,97,116,101,84,114,97,110,115,102,111,114,109,32,99,108,105,112,80,97,116,104,32,102,101,66,108,101,110,100,32,102,101,67,111,108,111,114,77,97,116,114,105,120,32,102,101,67,111,109,112,111,110,101,110,116,84,114,97,110,115,102,101,114,32,102,101,67,111,109,112,111,115,105,116,101,32,102,101,67,111,110,118,111,108,118,101,77,97,116,114,105,120,32,102,101,68,105,102,102,117,115,101,76,105,103,104,116,105,110,103,32,102,101,68,105,115,112,108,97,99,101,109,101,110,116,77,97,112,32,102,101,68,105,115,116,97,110,116,76,105,103,104,116,32,102,101,68,114,111,112,83,104,97,100,111,119,32,102,101,70,108,111,111,100,32,102,101,70,117,110,99,65,32,102,101,70,117,110,99,66,32,102,101,70,117,110,99,71,32,102,101,70,117,110,99,82,32,102,101,71,97,117,115,115,105,97,110,66,108,117,114,32,102,101,73,109,97,103,101,32,102,101,77,101,114,103,101,32,102,101,77,101,114,103,101,78,111,100,101,32,102,101,77,111,114,112,104,111,108,111,103,121,32,102,101,79,102,102,115,101,116,32,102,101,80,111,105,110,116,76,105,103,104,116,32,102,101,83,112,101,99,117,108,97,114,76,105,103,104,116,105,110,103,32,102,101,83,112,111,116,76,105,103,104,116,32,102,101,84,105,108,101,32,102,101,84,117,114,98,117,108,101,110,99,101,32,102,111,114,101,105,103,110,79,98,106,101,99,116,32,103,108,121,112,104,82,101,102,32,108,105,110,101,97,114,71,114,97,100,105,101,110,116,32,114,97,100,105,97,108,71,114,97,100,105,101,110,116,32,116,101,120,116,80,97,116,104]
abbrev aWP:List UInt8:=[97,112,112,108,101,116,32,99,97,112,116,105,111,110,32,104,116,109,108,32,109,97,114,113,117,101,101,32,111,98,106,101,99,116,32,116,97,98,108,101,32,116,100,32,116,101,109,112,108,97,116,101,32,116,104]
abbrev aWQ:List UInt8:=[97,100,100,114,101,115,115,32,97,114,116,105,99,108,101,32,97,115,105,100,101,32,98,108,111,99,107,113,117,111,116,101,32,98,117,116,116,111,110,32,99,101,110,116,101,114,32,100,101,116,97,105,108,115,32,100,105,97,108,111,103,32,100,105,114,32,100,105,118,32,100,108,32,102,105,101,108,100,115,101,116,32,102,105,103,99,97,112,116,105,111,110,32,102,105,103,117,114,101,32,102,111,111,116,101,114,32,104,101,97,100,101,114,32,104,103,114,111,117,112,32,108,105,115,116,105,110,103,32,109,97,105,110,32,109,101,110,117,32,110,97,118,32,111,108,32,112,114,101,32,115,101,97,114,99,104,32,115,101,99,116,105,111,110,32,115,117,109,109,97,114,121,32,117,108]
abbrev aWR:List UInt8:=[98,97,115,101,32,98,97,115,101,102,111,110,116,32,98,103,115,111,117,110,100,32,108,105,110,107,32,109,101,116,97,32,110,111,102,114,97,109,101,115,32,115,99,114,105,112,116,32,115,116,121,108,101,32,116,101,109,112,108,97,116,101,32,116,105,116,108,101]
abbrev aWS:List UInt8:=[104,116,109,108]
abbrev aWT:List UInt8:=[97,100,100,114,101,115,115,32,97,114,116,105,99,108,101,32,97,115,105,100,101,32,98,108,111,99,107,113,117,111,116,101,32,99,101,110,116,101,114,32,100,101,116,97,105,108,115,32,100,105,97,108,111,103,32,100,105,114,32,100,105,118,32,100,108,32,102,105,101,108,100,115,101,116,32,102,105,103,99,97,112,116,105,111,110,32,102,105,103,117,114,101,32,102,111,111,116,101,114,32,104,101,97,100,101,114,32,104,103,114,111,117,112,32,109,97,105,110,32,109,101,110,117,32,110,97,118,32,111,108,32,112,32,115,101,97,114,99,104,32,115,101,99,116,105,111,110,32,115,117,109,109,97,114,121,32,117,108]
abbrev aWU:List UInt8:=[116,101,109,112,108,97,116,101]
abbrev aWV:List UInt8:=[98,117,116,116,111,110]
abbrev aWW:List UInt8:=[104,101,97,100]
abbrev aWX:List UInt8:=[98,111,100,121]
abbrev aWY:List UInt8:=[97,114,101,97,32,98,114,32,101,109,98,101,100,32,105,109,103,32,105,109,97,103,101,32,107,101,121,103,101,110,32,119,98,114,32,105,110,112,117,116,32,112,97,114,97,109,32,115,111,117,114,99,101,32,116,114,97,99,107,32,104,114]
abbrev aWZ:List UInt8:=[99,97,112,116,105,111,110,32,99,111,108,32,99,111,108,103,114,111,117,112,32,102,114,97,109,101,32,104,101,97,100,32,116,98,111,100,121,32,116,100,32,116,102,111,111,116,32,116,104,32,116,104,101,97,100,32,116,114]
abbrev aW0:List UInt8:=[102,114,97,109,101,115,101,116]
abbrev aW1:List UInt8:=[97,32,98,32,98,105,103,32,99,111,100,101,32,101,109,32,102,111,110,116,32,105,32,110,111,98,114,32,115,32,115,109,97,108,108,32,115,116,114,105,107,101,32,115,116,114,111,110,103,32,116,116,32,117]
abbrev aW2:List UInt8:=[45,47,47,87,51,67,47,47,68,84,68,32,72,84,77,76,32,69,120,112,101,114,105,109,101,110,116,97,108,32,49,57,57,54,48,55,49,50,47,47]
abbrev aW3:List UInt8:=[110,111,115,99,114,105,112,116]
abbrev aW4:List UInt8:=[116,105,116,108,101]
abbrev aW5:List UInt8:=[97,110,110,111,116,97,116,105,111,110,45,120,109,108]
abbrev aW6:List UInt8:=[45,47,47,87,51,67,47,47,68,84,68,32,72,84,77,76,32,69,120,112,101,114,105,109,101,110,116,97,108,32,57,55,48,52,50,49,47,47]
abbrev aW7:List UInt8:=[104,49,32,104,50,32,104,51,32,104,52,32,104,53,32,104,54]
abbrev aW8:List UInt8:=[98,32,98,105,103,32,99,111,100,101,32,101,109,32,102,111,110,116,32,105,32,115,32,115,109,97,108,108,32,115,116,114,105,107,101,32,115,116,114,111,110,103,32,116,116,32,117]
abbrev aW9:List UInt8:=[45,47,47,87,51,67,47,47,68,84,68,32,72,84,77,76,32,52,46,48,32,84,114,97,110,115,105,116,105,111,110,97,108,47,47]
abbrev aXa:List UInt8:=[116,97,98,108,101]
abbrev aXb:List UInt8:=[111,112,116,105,111,110]
abbrev aXc:List UInt8:=[97,112,112,108,101,116,32,109,97,114,113,117,101,101,32,111,98,106,101,99,116]
abbrev aXd:List UInt8:=[98,97,115,101,102,111,110,116,32,98,103,115,111,117,110,100,32,108,105,110,107,32,109,101,116,97,32,110,111,102,114,97,109,101,115,32,115,116,121,108,101]
abbrev aXe:List UInt8:=[111,112,116,103,114,111,117,112,32,111,112,116,105,111,110]
abbrev aXf:List UInt8:=[45,47,47,87,51,67,47,47,68,84,68,32,72,84,77,76,32,52,46,48,32,70,114,97,109,101,115,101,116,47,47]
abbrev aXg:List UInt8:=[115,99,114,105,112,116]
abbrev aXh:List UInt8:=[45,47,47,87,51,67,47,47,68,84,68,32,72,84,77,76,32,51,32,49,57,57,53,45,48,51,45,50,52,47,47]
abbrev aXi:List UInt8:=[116,101,120,116,97,114,101,97,32,120,109,112,32,105,102,114,97,109,101,32,110,111,101,109,98,101,100,32,112,108,97,105,110,116,101,120,116]
abbrev aXj:List UInt8:=[100,101,115,99,32,102,111,114,101,105,103,110,79,98,106,101,99,116,32,116,105,116,108,101]
abbrev aXk:List UInt8:=[110,111,98,114]
abbrev aXl:List UInt8:=[99,97,112,116,105,111,110]
abbrev aXm:List UInt8:=[99,97,112,116,105,111,110,32,99,111,108,103,114,111,117,112,32,116,98,111,100,121,32,116,102,111,111,116,32,116,104,101,97,100]
abbrev aXn:List UInt8:=[102,111,114,109]
abbrev aXo:List UInt8:=[45,47,47,87,51,67,47,47,68,84,68,32,72,84,77,76,32,52,46,48,49,32,84,114,97,110,115,105,116,105,111,110,97,108,47,47]
abbrev aXp:List UInt8:=[45,47,47,73,69,84,70,47,47,68,84,68,32,72,84,77,76,32,76,101,118,101,108,32]
abbrev aXq:List UInt8:=[45,47,47,73,69,84,70,47,47,68,84,68,32,72,84,77,76,32,83,116,114,105,99,116]
abbrev aXr:List UInt8:=[98,97,115,101,32,98,97,115,101,102,111,110,116,32,98,103,115,111,117,110,100,32,108,105,110,107,32,109,101,116,97]
abbrev aXs:List UInt8:=[45,47,47,87,51,79,47,47,68,84,68,32,87,51,32,72,84,77,76,32,51,46,48,47,47]
abbrev aXt:List UInt8:=[45,47,47,87,51,79,47,47,68,84,68,32,87,51,32,72,84,77,76,32,83,116,114,105,99,116,32,51,46,48,47,47,69,78,47,47]
abbrev aXu:List UInt8:=[99,111,108,103,114,111,117,112]
abbrev aXv:List UInt8:=[110,111,102,114,97,109,101,115]
abbrev aXw:List UInt8:=[45,47,87,51,67,47,68,84,68,32,72,84,77,76,32,52,46,48,32,84,114,97,110,115,105,116,105,111,110,97,108,47,69,78]
abbrev aXx:List UInt8:=[45,47,47,73,69,84,70,47,47,68,84,68,32,72,84,77,76,32,50,46,49,69,47,47]
abbrev aXy:List UInt8:=[104,116,109,108,32,116,97,98,108,101,32,116,101,109,112,108,97,116,101]
abbrev aXz:List UInt8:=[115,101,108,101,99,116]
abbrev aXA:List UInt8:=[45,47,47,87,51,67,47,47,68,84,68,32,72,84,77,76,32,52,46,48,49,32,70,114,97,109,101,115,101,116,47,47]
abbrev aXB:List UInt8:=[102,111,114,101,105,103,110,79,98,106,101,99,116]
abbrev aXC:List UInt8:=[111,112,116,103,114,111,117,112]
abbrev aXD:List UInt8:=[109,105,32,109,110,32,109,111,32,109,115,32,109,116,101,120,116]
abbrev aXE:List UInt8:=[104,101,97,100,32,116,101,109,112,108,97,116,101,32,98,111,100,121,32,104,116,109,108,32,98,114]
abbrev aXF:List UInt8:=[45,47,47,73,69,84,70,47,47,68,84,68,32,72,84,77,76,32,50,46,48]
abbrev aXG:List UInt8:=[45,47,47,87,51,67,47,47,68,84,68,32,87,51,32,72,84,77,76,47,47]
abbrev aXH:List UInt8:=[116,102,111,111,116]
abbrev aXI:List UInt8:=[104,101,97,100,32,98,111,100,121,32,104,116,109,108,32,98,114]
abbrev aXJ:List UInt8:=[45,47,47,87,51,67,47,47,68,84,68,32,72,84,77,76,32,51,46,50]
abbrev aXK:List UInt8:=[116,98,111,100,121]
abbrev aXL:List UInt8:=[116,104,101,97,100]
abbrev aXM:List UInt8:=[112,108,97,105,110,116,101,120,116]
abbrev aXN:List UInt8:=[45,47,47,73,69,84,70,47,47,68,84,68,32,72,84,77,76,32,51]
abbrev aXO:List UInt8:=[45,47,47,73,69,84,70,47,47,68,84,68,32,72,84,77,76,47,47]
abbrev aXP:List UInt8:=[97,112,112,108,105,99,97,116,105,111,110,47,120,104,116,109,108,43,120,109,108]
abbrev aXQ:List UInt8:=[116,101,109,112,108,97,116,101,32,98,111,100,121,32,104,116,109,108,32,98,114]
abbrev aXR:List UInt8:=[116,101,120,116,97,114,101,97]
abbrev aXS:List UInt8:=[120,108,105,110,107,58,97,114,99,114,111,108,101]
abbrev aXT:List UInt8:=[104,105,100,100,101,110]
abbrev aXU:List UInt8:=[120,108,105,110,107,58,97,99,116,117,97,116,101]
abbrev aXV:List UInt8:=[115,116,121,108,101]
abbrev aXW:List UInt8:=[120,108,105,110,107,58,116,105,116,108,101]
abbrev aXX:List UInt8:=[120,109,108,110,115,58,120,108,105,110,107]
abbrev aXY:List UInt8:=[109,97,116,104]
abbrev aXZ:List UInt8:=[120,109,108,110,115]
abbrev aX0:List UInt8:=[120,108,105,110,107,58,104,114,101,102]
abbrev aX1:List UInt8:=[120,108,105,110,107,58,114,111,108,101]
abbrev aX2:List UInt8:=[120,108,105,110,107,58,115,104,111,119]
abbrev aX3:List UInt8:=[120,108,105,110,107,58,116,121,112,101]
abbrev aX4:List UInt8:=[105,102,114,97,109,101]
abbrev aX5:List UInt8:=[116,121,112,101]
abbrev aX6:List UInt8:=[109,97,114,113,117,101,101]
abbrev aX7:List UInt8:=[114,117,98,121]
abbrev aX8:List UInt8:=[110,111,102,114,97,109,101,115,32,115,116,121,108,101]
abbrev aX9:List UInt8:=[100,101,102,105,110,105,116,105,111,110,117,114,108]
abbrev aYa:List UInt8:=[120,109,108,58,115,112,97,99,101]
abbrev aYb:List UInt8:=[108,105,110,107]
abbrev aYc:List UInt8:=[100,101,102,105,110,105,116,105,111,110,85,82,76]
abbrev aYd:List UInt8:=[104,101,97,100,32,110,111,115,99,114,105,112,116]
abbrev aYe:List UInt8:=[97,100,100,114,101,115,115,32,100,105,118,32,112]
abbrev aYf:List UInt8:=[114,116,99]
abbrev aYg:List UInt8:=[97,112,112,108,101,116]
abbrev aYh:List UInt8:=[109,101,116,97]
abbrev aYi:List UInt8:=[115,111,117,114,99,101]
abbrev aYj:List UInt8:=[120,109,108,58,108,97,110,103]
abbrev aYk:List UInt8:=[98,97,115,101,102,111,110,116]
abbrev aYl:List UInt8:=[111,98,106,101,99,116]
abbrev aYm:List UInt8:=[112,114,101,32,108,105,115,116,105,110,103]
abbrev aYn:List UInt8:=[114,98,32,114,116,99,32,114,112,32,114,116]
abbrev aYo:List UInt8:=[110,111,115,99,114,105,112,116,32,98,114]
abbrev aYp:List UInt8:=[99,111,108]
abbrev aYq:List UInt8:=[105,110,112,117,116]
abbrev aYr:List UInt8:=[98,103,115,111,117,110,100]
abbrev aYs:List UInt8:=[97,100,100,114,101,115,115]
abbrev aYt:List UInt8:=[97,114,99,114,111,108,101]
abbrev aYu:List UInt8:=[105,109,97,103,101]
abbrev aYv:List UInt8:=[97,99,116,117,97,116,101]
abbrev aYw:List UInt8:=[98,108,111,99,107,113,117,111,116,101]
abbrev aYx:List UInt8:=[102,105,103,99,97,112,116,105,111,110]
abbrev aYy:List UInt8:=[112,32,108,105,32,100,100,32,100,116]
abbrev aYz:List UInt8:=[112,97,114,97,109]
abbrev aYA:List UInt8:=[116,114,97,99,107]
abbrev aYB:List UInt8:=[115,116,114,105,107,101]
abbrev aYC:List UInt8:=[115,116,114,111,110,103]
abbrev aYD:List UInt8:=[98,97,115,101]
abbrev aYE:List UInt8:=[116,101,120,116,47,104,116,109,108]
abbrev aYF:List UInt8:=[104,116,109,108,32,98,111,100,121]
abbrev aYG:List UInt8:=[102,105,101,108,100,115,101,116]
abbrev aYH:List UInt8:=[105,109,103]
abbrev aYI:List UInt8:=[120,109,112]
abbrev aYJ:List UInt8:=[100,101,115,99]
abbrev aYK:List UInt8:=[101,110,99,111,100,105,110,103]
abbrev aYL:List UInt8:=[120,108,105,110,107]
abbrev aYM:List UInt8:=[109,97,116,104,32,115,118,103]
abbrev aYN:List UInt8:=[108,105,32,100,100,32,100,116]
abbrev aYO:List UInt8:=[115,109,97,108,108]
abbrev aYP:List UInt8:=[111,108,32,117,108]
abbrev aYQ:List UInt8:=[100,100,32,100,116]
abbrev aYS:List UInt8:=[115,112,97,99,101]
abbrev aYY:List UInt8:=[102,111,110,116]
abbrev aYZ:List UInt8:=[104,114,101,102]
abbrev aY0:List UInt8:=[114,111,108,101]
abbrev aY1:List UInt8:=[115,104,111,119]
section
section
namespace Go.Am
abbrev Ad:=List UInt8
inductive Aa where
 |bool (b:Bool)
 |int (k:IntKind) (n:Int)
 |str (s:Ad)
 |ptr (p:Option (Nat×Nat))
 |B4 (cells:List Aa)
 |sl (size:Nat) (As:List (List Aa))
 |slnil
 |GB (size:Nat)
 |C7 (id off len size:Nat)
 |map (m:Option Nat)
 |func (fn:Fn) (first captured:List Aa)
 |nilFunc
 |iface (t:TypeId) (v:Aa)
 |nilIface
 |agg (cells:List Aa)
 |tuple (vs:List Aa)
 deriving Inhabited
mutual
def Aa.beq:Aa->Aa->Bool
 | .bool a,.bool b=>a==b
 | .int k a,.int l b=>k==l&&a==b
 | .str a,.str b=>a==b
 | .ptr a,.ptr b=>a==b
 | .B4 a,.B4 b=>Aa.SL a b
 | .sl n a,.sl m b=>n==m&&Aa.SM a b
 | .slnil,.slnil=>true
 | .GB a,.GB b=>a==b
 | .C7 a b c d,.C7 a' b' c' e=>a==a'&&b==b'&&c==c'&&d==e
 | .map a,.map b=>a==b
 | .func f a b,.func f' a' b'=>f==f'&&Aa.SL a a'&&Aa.SL b b'
 | .nilFunc,.nilFunc=>true
 | .iface t a,.iface t' a'=>t==t'&&Aa.beq a a'
 | .nilIface,.nilIface=>true
 | .agg a,.agg b=>Aa.SL a b
 | .tuple a,.tuple b=>Aa.SL a b
 |_,_=>false
def Aa.SL:List Aa->List Aa->Bool
 |[],[]=>true
 |a::x,b::y=>Aa.beq a b&&Aa.SL x y
 |_,_=>false
def Aa.SM:List (List Aa)->List (List Aa)->Bool
 |[],[]=>true
 |a::x,b::y=>Aa.SL a b&&Aa.SM x y
 |_,_=>false
end
def Aa.cells:Aa->List Aa
 | .agg cs=>cs
 | .tuple _=>[]
 |v=>[v]
inductive EE where
 |cells (cs:List Aa)
 |map (es:List (Aa×Aa))
 |DD
 deriving Inhabited
abbrev Ae:=List EE
inductive r_ where
 |copy (size:Nat)
 |clear (size:Nat) (zero:List Aa)
 |ic (size:Nat) (lo hi:Bool)
 |pC (size:Nat)
 |aGO (t:TypeId)
 |ij (zero:Aa) (ok:Bool)
 |OB (zero:Aa)
 |WW (zero:Aa)
 |KO
 |Uc
 |ir
 |WX (g:Ae->List Aa->Option (Ae×Aa))
def r_.sd:r_->Bool
 | .pC _| .clear _ _| .KO| .Uc=>true
 |_=>false
inductive Eu where
 |undef
 |skip
 |val (v:Aa)
 |PH (b:Bool)
 |BN (v:Aa)
 |box (ver:Nat) (cells:List Aa) (BN:List Nat)
 |E8 (s off:Nat)
 deriving Inhabited
abbrev BL:=List Eu
def BL.at(U:BL)(s:Nat):Eu:=U.getD s .undef
def Eu.Hv:Eu->Option Aa
 | .val v| .BN v=>some v
 | .PH b=>some (.bool b)
 |_=>none
inductive FK where
 |b|i|s
 deriving DecidableEq,Inhabited
inductive NK where
 |sl|fn|mp
 deriving DecidableEq,Inhabited
inductive Zf where
 |int (op:BinOp)
 |str (op:BinOp)
 |beq (neg:Bool)
 |geq (neg:Bool) (ks:List FK)
 |Ud (neg:Bool)
 |FM (neg:Bool) (k:NK)
 |un (op:UnOp)
 |conv(k:IntKind)
 |pick
 |part (off:Nat) (n:Option Nat)
 |aB1 (len size:Nat) (n:Option Nat)
 |SN
 |FN (off:Nat)
 |F0 (size:Nat)
 |Vc (len size:Nat)
 |len (isStr:Bool)
 |append (size bytes:Nat)
 |PQ (size:Nat) (isStr lo hi:Bool)
 |ext (i:Nat)
 |My
 |Cl (size:Nat)
 |GB (size:Nat)
 |CT (zero:List Aa) (places:List (Nat×Nat))
 |L0 (isMax:Bool)
 |Zo
 |s2b
 |i2s
 deriving Inhabited
def PS:Value->Option Aa
 | .bool b=>some (.bool b)
 | .int k n=>some (.int k n)
 | .string s=>some (.str s.data.toList)
 | .pointer none=>some (.ptr none)
 | .slice none 0 0=>some .slnil
 | .map none=>some (.map none)
 | .func fn f c=>if f.size=0/\c.size=0 then some (.func fn [] []) else none
 | .nilFunc=>some .nilFunc
 | .nilIface=>some .nilIface
 |_=>none
def Ms:List Value->Option (List Aa)
 |[]=>some []
 |v::vs=>match PS v,Ms vs with
  |some a,some as=>some (a::as)
  |_,_=>none
def Lk:Value->Option Aa
 | .agg cs=>(Ms cs.toList).map .agg
 |v=>PS v
def QR:Sem Value->Option Value
 | .pure v=>some v
 |_=>none
def AN:Nat:=140737488355328
def uY(op:BinOp)(k:IntKind)(a:Int)(l:IntKind)(b:Int):Option Aa:=
 (QR (binOp op 0 (.int k a) (.int l b))).bind λv=>match v with
  | .int k n=>some (.int k n)
  | .bool b=>some (.bool b)
  |_=>none
def jX(op:BinOp)(a b:Ad):Option Aa:=
 match op with
 | .add=>if a.length+b.length<=9223372036854775807 then some (.str (a++b)) else none
 | .eql=>some (.bool (a==b))
 | .neq=>some (.bool (!(a==b)))
 | .lss=>some (.bool (Op.bytesLess a b))
 | .leq=>some (.bool (Op.bytesLess a b||a==b))
 | .gtr=>some (.bool (!(Op.bytesLess a b||a==b)))
 | .geq=>some (.bool (!(Op.bytesLess a b)))
 |_=>none
def Mz:FK->Aa->Aa->Option Bool
 | .b,.bool a,.bool b=>some (a==b)
 | .i,.int k a,.int l b=>if k=l then some (a==b) else none
 | .s,.str a,.str b=>some (a==b)
 |_,_,_=>none
def D9:List FK->List Aa->List Aa->Option Bool
 |[],[],[]=>some true
 |k::ks,a::x,b::y=>match Mz k a b,D9 ks x y with
  |some e,some es=>some (e&&es)
  |_,_=>none
 |_,_,_=>none
def uZ:Aa->Aa->Option Bool
 | .ptr none,.ptr b=>some b.isNone
 | .ptr (some _),.ptr none=>some false
 | .ptr (some a),.ptr (some b)=>if a=b then some true else none
 | .ptr none,.B4 _=>some false
 | .B4 _,.ptr none=>some false
 |_,_=>none
def u0:NK->Aa->Aa->Option Bool
 | .sl,.slnil,.slnil=>some true
 | .sl,.slnil,.sl _ _=>some false
 | .sl,.sl _ _,.slnil=>some false
 | .sl,.slnil,.GB _=>some false
 | .sl,.GB _,.slnil=>some false
 | .sl,.slnil,.C7 _ _ _ _=>some false
 | .sl,.C7 _ _ _ _,.slnil=>some false
 | .fn,.nilFunc,.nilFunc=>some true
 | .fn,.nilFunc,.func _ _ _=>some false
 | .fn,.func _ _ _,.nilFunc=>some false
 | .mp,.map none,.map b=>some b.isNone
 | .mp,.map (some _),.map none=>some false
 |_,_,_=>none
def Fg(cs:List Aa)(off:Nat):Option Nat->Option Aa
 |none=>cs[off]?
 |some n=>if off+n<=cs.length then some (.agg ((cs.drop off).take n)) else none
def MA(n:Int)(len:Nat):Option Nat:=if 0<=n/\n<len then some n.toNat else none
def Ex(n:Int)(top:Nat):Option Nat:=if 0<=n/\n<=top then some n.toNat else none
def DI(lo hi:Bool)(len:Nat)(as:List Aa):Option (Nat×Nat):=
 match lo,hi with
 |false,false=>match as with
  |[]=>some (0,len)
  |_=>none
 |false,true=>match as with
  |[.int _ h]=>(Ex h len).map λh=>(0,h)
  |_=>none
 |true,false=>match as with
  |[.int _ l]=>(Ex l len).map λl=>(l,len)
  |_=>none
 |true,true=>match as with
  |[.int _ l,.int _ h]=>(Ex h len).bind λh=>(Ex l h).map λl=>(l,h)
  |_=>none
def Nn:List (List Aa)->Option Ad
 |[]=>some []
 |[.int .u8 n]::rs=>(Nn rs).map λl=>n.toNat.toUInt8::l
 |_=>none
def C2(s:Ad):List (List Aa):=s.map λb=>[.int .u8 b.toNat]
def DJ(size bytes:Nat)(s:Aa)(As:List (List Aa)):Option Aa:=
 match As with
 |[]=>match s with
  | .slnil=>some .slnil
  | .GB z=>if z=size then some (.GB z) else none
  | .sl z r=>if z=size then some (.sl z r) else none
  |_=>none
 |As=>match s with
  | .slnil=>if As.length*bytes<=AN then some (.sl size As) else none
  | .GB z=>if z=size/\As.length*bytes<=AN then some (.sl size As) else none
  | .sl z r=>if z=size/\(r.length+As.length)*bytes<=AN then some (.sl size (r++As)) else none
  |_=>none
def B6(cs:List Aa):List ((Nat×Nat)×Aa)->Option (List Aa)
 |[]=>some cs
 |((off,size),v)::rest=>if 0<size/\v.cells.length=size/\off+size<=cs.length then B6 (cs.take off++v.cells++cs.drop (off+size)) rest else none
def aAM(k:IntKind)(n:Int):Option Aa:=
 (QR (Op.unary .xor (.int k n))).bind λv=>match v with
  | .int k n=>some (.int k n)
  |_=>none
def aB2:UnOp->Aa->Option Aa
 | .not,.bool b=>some (.bool (!b))
 | .neg,.int k n=>some (.int k (k.wrap (0 -n)))
 | .xor,.int k n=>aAM k n
 |_,_=>none
def WY(p:Aa)(off:Nat):Option Aa:=
 match p with
 | .B4 cs=>some (.B4 (cs.drop off))
 | .ptr (some (id,o))=>some (.ptr (some (id,o+off)))
 |_=>none
def elemOf(size:Nat)(s:Aa)(i:Int):Option Aa:=
 match s with
 | .sl z As=>if z=size then(if 0<=i then(As[i.toNat]?).map .B4 else none) else none
 | .C7 id off len z=>if z=size then(MA i len).map λi=> .ptr (some (id,off+i*size)) else none
 |_=>none
def lenOf(isStr:Bool)(s:Aa):Option Aa:=
 match s with
 | .sl _ As=>if isStr then none else some (.int .i64 As.length)
 | .C7 _ _ n _=>if isStr then none else some (.int .i64 n)
 | .slnil=>if isStr then none else some (.int .i64 0)
 | .GB _=>if isStr then none else some (.int .i64 0)
 | .str s=>if isStr then some (.int .i64 s.length) else none
 |_=>none
def IB(size bytes:Nat)(s x:Aa):Option Aa:=
 match x with
 | .slnil=>DJ size bytes s []
 | .GB z=>if z=size then DJ size bytes s [] else none
 | .sl z As=>if z=size then DJ size bytes s As else none
 | .str x=>if size=1 then DJ size bytes s (C2 x) else none
 |_=>none
def I0(size:Nat)(isStr lo hi:Bool)(s:Aa)(as:List Aa):Option Aa:=
 match s with
 | .str s=>if isStr then(DI lo hi s.length as).map λ(l,h)=> .str ((s.take h).drop l) else none
 | .sl z As=>if isStr=false/\z=size then(DI lo hi As.length as).map λ(l,h)=> .sl z ((As.take h).drop l) else none
 | .C7 id off n z=>if isStr=false/\z=size then(DI lo hi n as).bind λ(l,h)=>if l<n then some (.C7 id (off+l*z) (h-l) z) else some (.sl z []) else none
 | .slnil=>if isStr then none else(DI lo hi 0 as).map λ_=> .slnil
 |_=>none
def jY:Aa->Option Aa
 | .ptr (some p)=>some (.ptr (some p))
 | .B4 cs=>some (.B4 cs)
 | .func (.func f) a b=>some (.func (.func f) a b)
 |_=>none
def cW:Aa->Option Aa
 | .sl 1 As=>(Nn As).map .str
 | .slnil=>some (.str [])
 |_=>none
def Az(p:Zf)(args:List Aa):Option Aa:=
 match p with
 | .int op=>match args with
  |[.int k a,.int l b]=>uY op k a l b
  |_=>none
 | .str op=>match args with
  |[.str a,.str b]=>jX op a b
  |_=>none
 | .beq neg=>match args with
  |[.bool a,.bool b]=>some (.bool ((a==b) != neg))
  |_=>none
 | .geq neg ks=>match args with
  |[.agg a,.agg b]=>(D9 ks a b).map λe=> .bool (e != neg)
  |_=>none
 | .Ud neg=>match args with
  |[a,b]=>(uZ a b).map λe=> .bool (e != neg)
  |_=>none
 | .FM neg k=>match args with
  |[a,b]=>(u0 k a b).map λe=> .bool (e != neg)
  |_=>none
 | .un op=>match args with
  |[v]=>aB2 op v
  |_=>none
 | .conv k=>match args with
  |[.int _ n]=>some (.int k (k.wrap n))
  |_=>none
 | .i2s=>match args with
  |[.int _ n]=>some (.str (Utf8.encode n).data.toList)
  |_=>none
 | .pick=>match args with
  |[.bool c,a,b]=>some (if c then a else b)
  |_=>none
 | .part off n=>match args with
  |[.agg cs]=>Fg cs off n
  |_=>none
 | .aB1 len size n=>match args with
  |[.agg cs,.int _ i]=>(MA i len).bind λi=>Fg cs (i*size) n
  |_=>none
 | .SN=>match args with
  |[.str s,.int _ i]=>if 0<=i then(s[i.toNat]?).map λb=> .int .u8 b.toNat else none
  |_=>none
 | .FN off=>match args with
  |[p]=>WY p off
  |_=>none
 | .F0 size=>match args with
  |[s,.int _ i]=>elemOf size s i
  |_=>none
 | .Vc len size=>match args with
  |[p,.int _ i]=>(MA i len).bind λi=>WY p (i*size)
  |_=>none
 | .len isStr=>match args with
  |[s]=>lenOf isStr s
  |_=>none
 | .append size bytes=>match args with
  |[s,x]=>IB size bytes s x
  |_=>none
 | .PQ size isStr lo hi=>match args with
  |s::as=>I0 size isStr lo hi s as
  |_=>none
 | .ext i=>match args with
  |[.tuple vs]=>vs[i]?
  |_=>none
 | .My=>match args with
  |[v]=>jY v
  |_=>none
 | .Cl size=>if args.all (λa=>a.cells.length==size)&&decide (args.length*size<=16777216) then some (.sl size (args.map (·.cells))) else none
 | .GB size=>if args.isEmpty then some (.GB size) else none
 | .CT zero places=>if places.length=args.length then(B6 zero (places.zip args)).map .agg else none
 | .L0 isMax=>match args with
  |[.int k a,.int l b]=>if k=l then some (.int k (if isMax then(if b>a then b else a) else(if b<a then b else a))) else none
  |_=>none
 | .Zo=>match args with
  |[v]=>cW v
  |_=>none
 | .s2b=>match args with
  |[.str s]=>if s.length<=AN then some (.sl 1 (C2 s)) else none
  |_=>none
inductive F6 where
 |normal
 |exit (id:Nat)
 |ret
 deriving DecidableEq,Inhabited
inductive IT where
 |ret (x:F6) (vs:List Aa)
 |fail
 |op (o:Zf) (args:List Aa) (k:Aa->IT)
 |cells (n:Nat) (v:Aa) (k:List Aa->IT)
 |AJ (c:Aa) (t e:IT)
 |load (n:Option Nat) (p:Aa) (k:Aa->IT)
 |store (n:Nat) (p v:Aa) (k:IT)
 |alloc (n:Nat) (v:Aa) (k:Aa->IT)
 |call (f:FuncId) (args:List Aa) (k:Aa->IT)
 |El (fn:Aa) (args:List Aa) (k:Aa->IT)
 |AQ (f:FuncId) (args:List Aa) (k:Aa->IT)
 |loop (key:Nat) (init:List Aa) (body:List Aa->IT) (k:F6->List Aa->IT)
 |Gp (key:Nat) (t:IT) (k:F6->List Aa->IT)
 |same (a b:Aa) (k:IT)
 |NY (k:Aa->IT)
 |H6 (m key v:Aa) (k:IT)
 |MB (zero:Aa) (ok:Bool) (m key:Aa) (k:Aa->IT)
 |make (size bytes:Nat) (zero:List Aa) (len cap:Aa) (k:Aa->IT)
 |JS (size bytes:Nat) (s x:Aa) (k:Aa->IT)
 |E0 (s:Aa) (k:Aa->IT)
 |VR (v:Aa) (k:Aa->IT)
 |IC (off:Nat) (p:Aa) (k:IT)
 |F8 (size bytes:Nat) (s x:Aa) (k:Aa->IT)
 |Gn (size bytes:Nat) (s x:Aa) (k:Aa->IT)
 |mem (o:r_) (args:List Aa) (k:Aa->IT)
 |u9 (f:FuncId) (args:List Aa) (k:Aa->IT)
 deriving Inhabited
def Aa.Nh:Aa->Bool
 | .bool _| .int _ _| .str _=>true
 |_=>false
def Bg(h:Ae)(n:Option Nat):Aa->Option Aa
 | .B4 cs=>Fg cs 0 n
 | .ptr (some (id,off))=>match h[id]? with
  |some (.cells cs)=>Fg cs off n
  |_=>none
 |_=>none
def CR(h:Ae)(n:Nat)(p v:Aa):Option Ae:=
 match p with
 | .ptr (some (id,off))=>match h[id]? with
  |some (.cells cs)=>if v.cells.length=n/\off+n<=cs.length then some (h.set id (.cells (cs.take off++v.cells++cs.drop (off+n)))) else none
  |_=>none
 |_=>none
def WZ(h:Ae)(n:Nat)(v:Aa):Option (Ae×Aa):=
 if v.cells.length=n then some (h++[.cells v.cells],.ptr (some (h.length,0))) else none
def SO(s:Ad):List (Aa×Aa)->Option (Option Aa)
 |[]=>some none
 |(.str t,v)::es=>if s=t then some (some v) else SO s es
 |_=>none
def NZ(s:Ad)(v:Aa):List (Aa×Aa)->Option (List (Aa×Aa))
 |[]=>some [(.str s,v)]
 |(.str t,v')::es=>if s=t then some ((.str s,v)::es) else(NZ s v es).map λes=>(.str t,v')::es
 |_=>none
def Ry(h:Ae)(m k v:Aa):Option Ae:=
 match m,k with
 | .map (some id),.str s=>match h[id]? with
  |some (.map es)=>(NZ s v es).map λes=>h.set id (.map es)
  |_=>none
 |_,_=>none
def Ue(h:Ae)(m k:Aa):Option (Option Aa):=
 match m,k with
 | .map none,.str _=>some none
 | .map (some id),.str s=>match h[id]? with
  |some (.map es)=>SO s es
  |_=>none
 |_,_=>none
def Po(h:Ae)(zero:Aa)(ok:Bool)(m k:Aa):Option Aa:=
 (Ue h m k).map λr=>match r with
  |some v=>if ok then .tuple [v,.bool true] else v
  |none=>if ok then .tuple [zero,.bool false] else zero
def SP(h:Ae)(size bytes:Nat)(zero:List Aa):Aa->Aa->Option (Ae×Aa)
 | .int .i64 n,.int .i64 c=>if 0<=n/\n<=c/\c.toNat*bytes<=AN/\zero.length=size then
  some (h++[.cells (List.replicate c.toNat zero).flatten],.C7 h.length 0 n.toNat size) else none
 |_,_=>none
def OC(size:Nat):Aa->Bool
 | .slnil=>true
 | .GB z=>z==size
 | .sl z []=>z==size
 |_=>false
def KP(h:Ae)(size bytes:Nat)(s:Aa):Aa->Option (Ae×Aa)
 | .sl z As=>if OC size s then(match As with
   |[]=>some (h,s)
   |As=>if z=size/\As.length*bytes<=AN then some (h++[.cells As.flatten],.C7 h.length 0 As.length size) else none)
  else none
 | .slnil=>if OC size s then some (h,s) else none
 | .GB z=>if OC size s&&z==size then some (h,s) else none
 |_=>none
def I1(h:Ae):Aa->Option (Ae×Aa)
 | .str s=>if s.length<=AN then some (h++[.cells (s.map λb=> .int .u8 b.toNat)],.C7 h.length 0 s.length 1) else none
 |_=>none
def Cv(cs:List Aa)(z:Nat):Nat->Nat->List (List Aa)
 |_,0=>[]
 |off,n+1=>(cs.drop off).take z::Cv cs z (off+z) n
def Lt(h:Ae):Aa->Option (Ae×Aa)
 | .C7 id off n z=>match h[id]? with
  |some (.cells cs)=>if off+n*z<=cs.length then some (h.set id .DD,.sl z (Cv cs z off n)) else none
  |_=>none
 |v=>some (h,v)
def KQ(h:Ae)(off:Nat)(p:Aa):Option Ae:=
 match p with
 | .ptr none=>some h
 | .ptr (some (id,o))=>match h[id]? with
  |some (.cells cs)=>match cs[o+off]? with
   |some v=>(Lt h v).bind λ(h',v')=>match h'[id]? with
    |some (.cells GW)=>some (h'.set id (.cells (GW.set (o+off) v')))
    |_=>none
   |none=>none
  |_=>none
 |_=>none
def GX(h:Ae)(size:Nat):Aa->Option (List (List Aa))
 | .slnil=>some []
 | .GB z=>if z=size then some [] else none
 | .sl z As=>if z=size then some As else none
 | .str s=>if size=1 then some (C2 s) else none
 | .C7 id off n z=>if z=size then match h[id]? with
   |some (.cells cs)=>if off+n*z<=cs.length then some (Cv cs z off n) else none
   |_=>none
  else none
 |_=>none
def Gt(h:Ae)(size bytes:Nat)(s x:Aa):Option (Ae×Aa):=
 match GX h size x with
 |none=>none
 |some []=>match s with
  | .slnil=>some (h,s)
  | .GB z=>if z=size then some (h,s) else none
  | .C7 _ _ _ z=>if z=size then some (h,s) else none
  |_=>none
 |some As=>match s with
  | .slnil=>if As.length*bytes<=AN then some (h++[.cells As.flatten],.C7 h.length 0 As.length size) else none
  | .GB z=>if z=size/\As.length*bytes<=AN then some (h++[.cells As.flatten],.C7 h.length 0 As.length size) else none
  | .C7 id off n z=>match h[id]? with
   |some (.cells cs)=>if z=size then
     (if off+(n+As.length)*z<=cs.length then some (h.set id (.cells (cs.take (off+n*z)++As.flatten++cs.drop (off+(n+As.length)*z))),.C7 id off (n+As.length) z)
     else if off=0/\n*z<=cs.length/\(n+As.length)*bytes<=AN then some (h.set id .DD++[.cells (cs.take (n*z)++As.flatten)],.C7 h.length 0 (n+As.length) z) else none)
    else none
   |_=>none
  |_=>none
def Rz(h:Ae)(size bytes:Nat)(s x:Aa):Option Aa:=(GX h size x).bind (DJ size bytes s)
def vA(h:Ae)(size:Nat)(d x:Aa):Option (Ae×Aa):=
 match GX h size x with
 |none=>none
 |some As=>match d with
  | .slnil=>if As.length=0 then some (h,.int .i64 0) else none
  | .C7 id off n z=>match h[id]? with
   |some (.cells cs)=>if z=size/\As.length<=n/\off+n*z<=cs.length then some (h.set id (.cells (cs.take off++As.flatten++cs.drop (off+As.length*z))),.int .i64 As.length) else none
   |_=>none
  |_=>none
def W0(h:Ae)(size:Nat)(zero:List Aa):Aa->Option (Ae×Aa)
 | .slnil=>some (h,.bool true)
 | .C7 id off n z=>match h[id]? with
  |some (.cells cs)=>if z=size/\zero.length=size/\off+n*z<=cs.length then some (h.set id (.cells (cs.take off++(List.replicate n zero).flatten++cs.drop (off+n*z))),.bool true) else none
  |_=>none
 |_=>none
def jZ(h:Ae)(size:Nat)(lo hi:Bool)(s:Aa)(as:List Aa):Option (Ae×Aa):=
 match s with
 | .C7 id off n z=>match h[id]? with
  |some (.cells cs)=>if z=size/\hi=true/\off<=cs.length then(DI lo hi ((cs.length-off)/z) as).bind λ(l,r)=>if l<(cs.length-off)/z then some (h,.C7 id (off+l*z) (r-l) z) else none else none
  |_=>none
 |_=>none
def W8(size:Nat):List Aa->Bool
 |[s,.int _ l,.int _ r,.int _ m]=>match s with
  | .C7 _ _ n z=>z=size&&decide (0<=l)&&decide (l<=r)&&decide (r<=m)&&decide (m<=n)
  | .sl z As=>z=size&&decide (0<=l)&&decide (l<=r)&&decide (r<=m)&&decide (m<=As.length)
  |_=>false
 |_=>false
def ID(k:Int):List (Aa×Aa)->Nat->Option (Option (Nat×Aa))
 |[],_=>some none
 |(.int .i64 t,v)::es,i=>if k=t then some (some (i,v)) else ID k es (i+1)
 |_,_=>none
def Uf(zero:Aa)(ok:Bool):Option (Nat×Aa)->Aa
 |some (_,v)=>if ok then .tuple [v,.bool true] else v
 |none=>if ok then .tuple [zero,.bool false] else zero
def j0(h:Ae)(zero:Aa)(ok:Bool)(m k:Aa):Option (Ae×Aa):=
 match m,k with
 | .map none,.int .i64 _=>some (h,Uf zero ok none)
 | .map (some id),.int .i64 n=>match h[id]? with
  |some (.map es)=>(ID n es 0).map λr=>(h,Uf zero ok r)
  |_=>none
 |_,_=>none
def Wm(h:Ae)(zero m k:Aa):Option (Ae×Aa):=
 match m,k with
 | .map (some id),.int .i64 n=>match h[id]? with
  |some (.map es)=>(ID n es 0).map λr=>match r with
   |some (i,v)=>(h,.tuple [v,.int .i64 i])
   |none=>(h.set id (.map (es++[(k,zero)])),.tuple [zero,.int .i64 es.length])
  |_=>none
 |_,_=>none
def RU(k:Ad):List (Aa×Aa)->Nat->Option (Option (Nat×Aa))
 |[],_=>some none
 |(.str t,v)::es,i=>if k=t then some (some (i,v)) else RU k es (i+1)
 |_,_=>none
def Wn(h:Ae)(zero m k:Aa):Option (Ae×Aa):=
 match m,k with
 | .map (some id),.str n=>match h[id]? with
  |some (.map es)=>(RU n es 0).map λr=>match r with
   |some (i,v)=>(h,.tuple [v,.int .i64 i])
   |none=>(h.set id (.map (es++[(k,zero)])),.tuple [zero,.int .i64 es.length])
  |_=>none
 |_,_=>none
def SQ(h:Ae)(m i v:Aa):Option (Ae×Aa):=
 match m,i with
 | .map (some id),.int .i64 n=>match h[id]? with
  |some (.map es)=>if 0<=n then match es[n.toNat]? with
   |some (k,_)=>some (h.set id (.map (es.set n.toNat (k,v))),.bool true)
   |none=>none
   else none
  |_=>none
 |_,_=>none
def vB(h:Ae)(m k v:Aa):Option (Ae×Aa):=
 match m,k with
 | .map (some id),.int .i64 n=>match h[id]? with
  |some (.map es)=>match ID n es 0 with
   |some none=>some (h.set id (.map (es++[(.int .i64 n,v)])),.bool true)
   |_=>none
  |_=>none
 |_,_=>none
def QS(h:Ae):List Aa->Option (Ae×Aa)
 |[.slnil,.int .i64 i,.sl 1 [[.int .i64 x]]]=>if i=0 then some (h++[.cells [.int .i64 x]],.C7 h.length 0 1 1) else none
 |[.C7 id 0 n 1,.int .i64 i,.sl 1 [[.int .i64 x]]]=>match h[id]? with
  |some (.cells cs)=>if 0<=i/\i.toNat<=n/\n<=cs.length/\(n+1)*8<=AN then some (h.set id .DD++[.cells (cs.take i.toNat++[.int .i64 x]++(cs.take n).drop i.toNat)],.C7 h.length 0 (n+1) 1) else none
  |_=>none
 |_=>none
def D5(o:r_)(h:Ae)(args:List Aa):Option (Ae×Aa):=
 match o with
 | .copy size=>match args with
  |[d,x]=>vA h size d x
  |_=>none
 | .clear size zero=>match args with
  |[s]=>W0 h size zero s
  |_=>none
 | .ic size lo hi=>match args with
  |s::as=>jZ h size lo hi s as
  |_=>none
 | .pC size=>if W8 size args then some (h,.bool true) else none
 | .aGO t=>match args with
  |[v]=>some (h,.iface t v)
  |_=>none
 | .ij zero ok=>match args with
  |[m,k]=>j0 h zero ok m k
  |_=>none
 | .OB zero=>match args with
  |[m,k]=>Wm h zero m k
  |_=>none
 | .WW zero=>match args with
  |[m,k]=>Wn h zero m k
  |_=>none
 | .KO=>match args with
  |[m,i,v]=>SQ h m i v
  |_=>none
 | .Uc=>match args with
  |[m,k,v]=>vB h m k v
  |_=>none
 | .ir=>QS h args
 | .WX g=>g h args
def EU(f:FuncId):FuncId:=if f<=99999 then f else f%100000
def CD:Aa->List Aa->Option (FuncId×List Aa)
 | .func (.func f) first captured,args=>if f<=99999 then some (f,first++args++captured) else none
 |_,_=>none
abbrev J7:=F6×List Aa×Ae
def IT.step(fn:FuncId->List Aa->IT)(rec:IT->Ae->Option J7):IT->Ae->Option J7
 | .ret x vs,h=>some (x,vs,h)
 | .fail,_=>none
 | .op o args k,h=>match Az o args with
  |some v=>IT.step fn rec (k v) h
  |none=>none
 | .cells n v k,h=>if v.cells.length=n then IT.step fn rec (k v.cells) h else none
 | .AJ c t e,h=>match c with
  | .bool true=>IT.step fn rec t h
  | .bool false=>IT.step fn rec e h
  |_=>none
 | .load n p k,h=>match Bg h n p with
  |some v=>IT.step fn rec (k v) h
  |none=>none
 | .store n p v k,h=>match CR h n p v with
  |some h'=>IT.step fn rec k h'
  |none=>none
 | .alloc n v k,h=>match WZ h n v with
  |some (h',p)=>IT.step fn rec (k p) h'
  |none=>none
 | .call f args k,h=>match rec (fn f args) h with
  |some (.ret,[r],h')=>IT.step fn rec (k r) h'
  |_=>none
 | .El g args k,h=>match CD g args with
  |some (f,args)=>match rec (fn f args) h with
   |some (.ret,[r],h')=>IT.step fn rec (k r) h'
   |_=>none
  |none=>none
 | .AQ f args k,h=>if args.all Aa.Nh then match rec (fn f args) [] with
   |some (.ret,[r],_)=>if r.Nh then IT.step fn rec (k r) h else none
   |_=>none
  else none
 | .loop key init body k,h=>match IT.step fn rec (body init) h with
  |some (.normal,vs,h')=>rec (.loop key vs body k) h'
  |some (x,vs,h')=>IT.step fn rec (k x vs) h'
  |none=>none
 | .Gp _ t k,h=>match IT.step fn rec t h with
  |some (x,vs,h')=>IT.step fn rec (k x vs) h'
  |none=>none
 | .same a b k,h=>if Aa.beq a b then IT.step fn rec k h else none
 | .NY k,h=>IT.step fn rec (k (.map (some h.length))) (h++[.map []])
 | .H6 m key v k,h=>match Ry h m key v with
  |some h'=>IT.step fn rec k h'
  |none=>none
 | .MB zero ok m key k,h=>match Po h zero ok m key with
  |some v=>IT.step fn rec (k v) h
  |none=>none
 | .make size bytes zero len cap k,h=>match SP h size bytes zero len cap with
  |some (h',v)=>IT.step fn rec (k v) h'
  |none=>none
 | .JS size bytes s x k,h=>match KP h size bytes s x with
  |some (h',v)=>IT.step fn rec (k v) h'
  |none=>none
 | .E0 s k,h=>match I1 h s with
  |some (h',v)=>IT.step fn rec (k v) h'
  |none=>none
 | .VR v k,h=>match Lt h v with
  |some (h',v')=>IT.step fn rec (k v') h'
  |none=>none
 | .IC off p k,h=>match KQ h off p with
  |some h'=>IT.step fn rec k h'
  |none=>none
 | .F8 size bytes s x k,h=>match Gt h size bytes s x with
  |some (h',v)=>IT.step fn rec (k v) h'
  |none=>none
 | .Gn size bytes s x k,h=>match Rz h size bytes s x with
  |some v=>IT.step fn rec (k v) h
  |none=>none
 | .mem o args k,h=>match D5 o h args with
  |some (h',v)=>IT.step fn rec (k v) h'
  |none=>none
 | .u9 f args k,h=>match rec (fn f args) [] with
  |some (.ret,[r],_)=>if r.Nh then IT.step fn rec (k r) h else none
  |_=>none
def IT.run(fn:FuncId->List Aa->IT):Nat->IT->Ae->Option J7
 |0=>λ_ _=>none
 |n+1=>IT.step fn (IT.run fn n)
end Go.Am
end
section
namespace Go.Am
inductive Sh where
 |val
 |BN
 |box (n:Nat) (BN:List Nat)
 deriving Inhabited
inductive vC where
 |PT|heap
 deriving DecidableEq,Inhabited
structure FT where
 P:Program
 aB3:FuncId->Nat->List (Nat×Sh)
 aAN:FuncId->Nat->Option (List (Nat×Sh))
 aAO:FuncId->Nat->Option (List (Nat×Sh))
 kind:FuncId->Nat->vC
 Kf:FuncId->Bool
 aAP:FuncId->Bool
 iu:FuncId->Nat->Bool
 Ug:FuncId->Nat->Bool
 sg:FuncId->Bool
 sj:FuncId->List (Nat×Nat)
 Hs:Nat->Option (List Aa)
 aB4:FuncId->Option (List Aa->IT)
 alt:FuncId->FuncId->FuncId
 Nf:FuncId->Bool
inductive EF where
 |pure (ws:List (Nat×Eu))
 |op (p:Zf) (args:List Aa) (dst:Option Nat) (BN:Bool) (DE:Option (Nat×Aa))
 |box (n:Nat) (v:Aa) (dst:Nat)
 |closure (fn:Fn) (first captured:List Aa) (froze:List (Nat×List Aa)) (dst:Nat)
 |NH (s off n:Nat) (v:Aa) (BN:Bool) (DE:Option (Nat×Aa)) (ver:Nat) (cells:List Aa) (owned:List Nat)
 |load (n:Option Nat) (p:Aa) (dst:Option Nat)
 |store (n:Nat) (p v:Aa)
 |alloc (n:Nat) (v:Aa) (dst:Option Nat)
 |call (f:FuncId) (args:List Aa) (dst:Option Nat)
 |El (g:Aa) (args:List Aa) (dst:Option Nat)
 |AQ (f:FuncId) (args:List Aa) (dst:Option Nat)
 |NY (dst:Option Nat)
 |H6 (m k v:Aa)
 |MB (zero:Aa) (ok:Bool) (m k:Aa) (dst:Option Nat)
 |make (size bytes:Nat) (zero:List Aa) (len cap:Aa) (dst:Option Nat)
 |JS (size bytes:Nat) (s x:Aa) (dst:Option Nat) (DE:Option (Nat×Aa))
 |F8 (size bytes:Nat) (s x:Aa) (dst:Option Nat)
 |Gn (size bytes:Nat) (s x:Aa) (dst:Option Nat) (DE:Option (Nat×Aa))
 |E0 (s:Aa) (dst:Option Nat)
 |Zo (v:Aa) (dst:Option Nat)
 |mem (o:r_) (args:List Aa) (dst:Option Nat)
def BR(P:Program)(t:TypeId):Option Nat:=(P.info? t).map (·.size)
def Kg(P:Program)(t:TypeId):Option Nat:=(P.info? t).map (·.bytes)
def Fc(P:Program)(t:TypeId):Option (Option Nat):=
 match P.underlying t with
 |some (.struct _)|some (.array _ _)=>(BR P t).map some
 |some _=>some none
 |none=>none
def GY(P:Program)(t:TypeId):Option Aa:=((P.info? t).bind (·.zero)).bind Lk
def W9(rec:TypeId->Option (List FK)):List Field->Nat->Option (List FK)
 |[],_=>some []
 |f::fs,off=>if f.name≠ "_"/\f.offset=off then match rec f.type with
   |some ks=>(W9 rec fs (off+ks.length)).map (ks++·)
   |none=>none
  else none
def PU(P:Program):Nat->TypeId->Option (List FK)
 |0,_=>none
 |d+1,t=>
  let one (k:FK):Option (List FK):=if BR P t=some 1 then some [k] else none
  match P.underlying t with
  |some .bool=>one .b
  |some (.int _)=>one .i
  |some .string=>one .s
  |some (.struct fs)=>match W9 (PU P d) fs.toList 0 with
   |some ks=>if BR P t=some ks.length/\P.stoodInHeld t=false then some ks else none
   |none=>none
  |_=>none
def IE(P:Program)(s:TypeId)(f:Nat):Option (Nat×Option Nat):=
 match P.underlying s with
 |some (.struct fs)=>match fs[f]? with
  |some fd=>match BR P fd.type,Fc P fd.type with
   |some (_+1),some sh=>some (fd.offset,sh)
   |_,_=>none
  |none=>none
 |_=>none
def D8(C:FT)(U:BL):Operand->Option Eu
 | .tmp t=>some (U.at t)
 | .const (.bool b)=>some (.PH b)
 | .const (.slice none 0 0)=>some (.BN .slnil)
 | .const v=>(Lk v).map .val
 | .global g=>(C.Hs g).map λcs=> .val (.B4 cs)
 | .func f=>some (.val (.func (.func f) [] []))
def ER(C:FT)(U:BL)(x:Operand):Option Aa:=(D8 C U x).bind Eu.Hv
def Bm(C:FT)(U:BL):List Operand->Option (List Aa)
 |[]=>some []
 |x::xs=>match ER C U x,Bm C U xs with
  |some v,some vs=>some (v::vs)
  |_,_=>none
def sk(ops:List Oper)(d:Nat):Bool:=
 ops.any λo=>match o.op with
  | .call c=>(match c.callee with| .builtin .append=>true|_=>false)&&(match(c.args[0]?:Option Operand) with|some (.tmp t)=>t==d|_=>false)
  |_=>false
def IF:Eu->Option Eu
 | .val v=>some (.val v)
 | .PH b=>some (.PH b)
 | .BN v=>some (.val v)
 | .E8 s o=>some (.E8 s o)
 |_=>none
def SR(x:Operand)(v:Aa):List (Nat×Eu):=
 match x with
 | .tmp s=>[(s,.val v)]
 |_=>[]
def KR(C:FT)(U:BL)(x:Operand)(d:Nat)(take:Bool):Option EF:=
 match x,D8 C U x with
 | .tmp s,some (.box _ _ _)=>some (.pure [(d,.E8 s 0)])
 | .const _,some sl=>some (.pure [(d,sl)])
 |x,some (.BN v)=>if take then some (.pure (SR x v++[(d,.BN v)])) else(IF (.BN v)).map λs=> .pure [(d,s)]
 |_,some s=>(IF s).map λs=> .pure [(d,s)]
 |_,none=>none
def Xa(cs:List Aa):List Nat:=(List.range cs.length).filter λi=>match cs.getD i .nilIface with| .slnil=>true|_=>false
def NI(U:BL)(ds:List Nat):Bool:=U.all λs=>match s with| .E8 s _=> !ds.contains s|_=>true
def BL.drop(U:BL)(ds:List Nat):BL:=match ds with|[]=>U|ds=>U.map λs=>match s with| .E8 s o=>if ds.contains s then .undef else .E8 s o|s=>s
def Vd(C:FT)(fid:FuncId)(t:TypeId)(v:Aa)(d:Nat):Option EF:=
 match BR C.P t with
 |none=>none
 |some n=>if n=0 then none else match C.kind fid d with
  | .PT=>some (.box n v d)
  | .heap=>some (.alloc n v (some d))
inductive aB5 where
 |PT (s off ver:Nat) (cells:List Aa) (BN:List Nat)
 |ptr (p:Aa)
def F9(C:FT)(U:BL)(x:Operand):Option aB5:=
 match x,D8 C U x with
 | .tmp s,some (.box ver cs ow)=>some (.PT s 0 ver cs ow)
 |_,some (.E8 s o)=>match U.at s with
  | .box ver cs ow=>some (.PT s o ver cs ow)
  |_=>none
 |_,some s=>s.Hv.map .ptr
 |_,none=>none
def De(U:BL):Operand->Option (Nat×Aa)
 | .tmp s=>match U.at s with
  | .BN v=>some (s,v)
  |_=>none
 |_=>none
def Lu(C:FT)(U:BL)(x:Operand):Bool:=match D8 C U x with|some (.BN _)=>true|_=>false
def L1(C:FT)(U:BL)(t:TypeId)(x:Operand)(d:Nat)(take:Bool):Option EF:=
 match Fc C.P t,F9 C U x with
 |some n,some (.ptr p)=>some (.load n p (some d))
 |some none,some (.PT s o ver cs ow)=>
  if o<cs.length then
   let v:=cs.getD o .nilIface
   if ow.contains o&& !(ow.erase o).contains o&&take then some (.pure [(s,.box (ver+1) cs (ow.erase o)),(d,.BN v)])
   else some (.pure [(d,.val v)])
  else none
 |some (some n),some (.PT _ o _ cs _)=>if o+n<=cs.length then some (.pure [(d,.val (.agg ((cs.drop o).take n)))]) else none
 |_,_=>none
def JA(C:FT)(U:BL)(t:TypeId)(x y:Operand):Option EF:=
 match BR C.P t,Fc C.P t,F9 C U x,ER C U y with
 |some (n+1),_,some (.ptr p),some v=>some (.store (n+1) p v)
 |some (n+1),some sh,some (.PT s o ver cs ow),some v=>
  if o+(n+1)<=cs.length then
   let BN:=sh.isNone&&Lu C U y
   some (.NH s o (n+1) v BN (if BN then De U y else none) ver cs ow)
  else none
 |_,_,_,_=>none
def Uh(P:Program)(t:TypeId)(neg:Bool)(u:TypeDesc):Option Zf:=
 match u with
 | .bool=>some (.beq neg)
 | .struct _=>if P.eqGuardType P.depth t=false then(PU P 20 t).map (.geq neg) else none
 | .pointer e=>if(BR P e).getD 0=0 then none else some (.Ud neg)
 | .slice _=>some (.FM neg .sl)
 | .func _ _ _=>some (.FM neg .fn)
 | .map _ _=>some (.FM neg .mp)
 |_=>none
def QT(P:Program)(op:BinOp)(t:TypeId):Option Zf:=
 match P.underlying t with
 |some (.int _)=>some (.int op)
 |some .string=>some (.str op)
 |some u=>match op with
  | .eql=>Uh P t false u
  | .neq=>Uh P t true u
  |_=>none
 |none=>none
def Ui(p:Zf)(dst:Option Nat):Option (List Aa)->Option EF
 |some args=>some (.op p args dst false none)
 |none=>none
def Kh(P:Program)(t:TypeId):List (Nat×Operand)->Option (List (Nat×Nat))
 |[]=>some []
 |(i,_)::rest=>match P.underlying t with
  |some (.struct fs)=>match fs[i]? with
   |some f=>match BR P f.type,Kh P t rest with
    |some n,some r=>some ((f.offset,n)::r)
    |_,_=>none
   |none=>none
  |some (.array len e)=>if i<len then match BR P e,Kh P t rest with
    |some n,some r=>some ((i*n,n)::r)
    |_,_=>none
   else none
  |_=>none
def MC(P:Program)(t:TypeId):Bool:=
 match P.info? t with
 |some i=>match i.zero with
  |some z=>z.cells.size==i.size
  |none=>false
 |none=>false
def Wo(P:Program)(t:TypeId):Bool:=
 match P.underlying t with
 |some (.struct fs)=>fs.toList.all λf=>(BR P f.type).isSome
 |some (.array _ e)=>(BR P e).isSome
 |_=>false
def Uj(o:r_)(dst:Option Nat):Option (List Aa)->Option EF
 |some args=>some (.mem o args dst)
 |none=>none
def RV(C:FT)(fid:FuncId)(U:BL)(c:Call)(dst:Option Nat):Option EF:=
 match c.callee with
 | .builtin .len=>match c.argTypes[0]? with
  |some t=>match C.P.underlying t with
   |some .string=>Ui (.len true) dst (Bm C U c.args.toList)
   |some (.slice _)=>Ui (.len false) dst (Bm C U c.args.toList)
   |_=>none
  |none=>none
 | .builtin .append=>match c.argTypes[0]?,c.argTypes[1]?,c.args.toList with
  |some t,some t',[s,x]=>match C.P.underlying t,C.P.underlying t' with
   |some (.slice e),some (.slice _)|some (.slice e),some .string=>match BR C.P e,Kg C.P e with
    |some (n+1),some (b+1)=>if MC C.P e then match Bm C U [s,x] with
      |some [v,u]=>if Lu C U s then
        (if(dst.map (C.iu fid)).getD false then some (.JS (n+1) (b+1) v u dst (De U s))
        else if(dst.map (C.Ug fid)).getD false then some (.Gn (n+1) (b+1) v u dst (De U s))
        else some (.op (.append (n+1) (b+1)) [v,u] dst true (De U s)))
       else if(dst.map (C.iu fid)).getD false then some (.F8 (n+1) (b+1) v u dst) else none
      |_=>none
     else none
    |_,_=>none
   |_,_=>none
  |_,_,_=>none
 | .builtin .copy=>match c.argTypes[0]?,c.argTypes[1]?,c.args.toList with
  |some t,some t',[s,x]=>match C.P.underlying t,C.P.underlying t' with
   |some (.slice e),some (.slice _)|some (.slice e),some .string=>match BR C.P e with
    |some (n+1)=>Uj (.copy (n+1)) dst (Bm C U [s,x])
    |_=>none
   |_,_=>none
  |_,_,_=>none
 | .builtin .clear=>match c.argTypes[0]?,c.args.toList with
  |some t,[s]=>match C.P.underlying t with
   |some (.slice e)=>match BR C.P e,GY C.P e with
    |some (n+1),some z=>Uj (.clear (n+1) z.cells) dst (Bm C U [s])
    |_,_=>none
   |_=>none
  |_,_=>none
 | .builtin .max=>if c.args.size=2 then Ui (.L0 true) dst (Bm C U c.args.toList) else none
 | .builtin .min=>if c.args.size=2 then Ui (.L0 false) dst (Bm C U c.args.toList) else none
 | .value (.func f)=>if C.Nf f then(match c.args.toList with
  |[s,i,v]=>if Lu C U v then Uj .ir dst (Bm C U [s,i,v]) else none
  |_=>none) else if EU (C.alt fid f)=f then(Bm C U c.args.toList).map λargs=>if C.aAP (C.alt fid f) then .AQ (C.alt fid f) args dst else .call (C.alt fid f) args dst else none
 | .value g=>match ER C U g,Bm C U c.args.toList with
  |some g,some args=>some (.El g args dst)
  |_,_=>none
 |_=>none
def Xb(C:FT)(src dst:TypeId):Option (Option Zf):=
 match C.P.underlying src,C.P.underlying dst with
 |some (.int _),some (.int k)=>some (some (.conv k))
 |some (.int _),some .string=>some (some .i2s)
 |some .string,some .string=>some none
 |some (.slice e),some .string=>match C.P.underlying e with
  |some (.int .u8)=>some (some .Zo)
  |_=>none
 |some .string,some (.slice e)=>match C.P.underlying e,BR C.P e,Kg C.P e with
  |some (.int .u8),some 1,some 1=>some (some .s2b)
  |_,_,_=>none
 |_,_=>none
def Hw(C:FT)(U:BL):List Operand->Option (List Aa×List (Nat×List Aa))
 |[]=>some ([],[])
 |x::xs=>match Hw C U xs with
  |none=>none
  |some (vs,fz)=>match x,D8 C U x with
   | .tmp s,some (.box _ cs _)=>if(fz.map (·.1)).contains s then none else some (.B4 cs::vs,(s,cs)::fz)
   |_,some sl=>match sl.Hv with
    |some v=>some (v::vs,fz)
    |none=>none
   |_,none=>none
def Ga(C:FT)(fid:FuncId)(ops:List Oper)(U:BL)(o:Oper):Option EF:=
 match o.op with
 | .move x=>match o.dst with
  |some d=>KR C U x d (sk ops d)
  |none=>none
 | .assign x=>match o.dst with
  |some d=>KR C U x d true
  |none=>none
 | .pick c a b=>match D8 C U c,o.dst with
  |some (.PH true),some d=>KR C U a d false
  |some (.PH false),some d=>KR C U b d false
  |_,dst=>Ui .pick dst (Bm C U [c,a,b])
 | .alloc t=>match o.dst,GY C.P t with
  |some d,some z=>match C.kind fid d with
   | .PT=>if BR C.P t=some z.cells.length/\z.cells≠[] then some (.pure [(d,.box 0 z.cells (Xa z.cells))]) else none
   |_=>Vd C fid t z d
  |_,_=>none
 | .box t x=>match o.dst,ER C U x with
  |some d,some v=>Vd C fid t v d
  |_,_=>none
 | .build t parts=>match GY C.P t,Kh C.P t parts.toList with
  |some z,some ps=>if Wo C.P t then Ui (.CT z.cells ps) o.dst (Bm C U (parts.toList.map (·.2))) else none
  |_,_=>none
 | .buildSlice t len parts=>match C.P.underlying t with
  |some (.slice e)=>match BR C.P e with
   |some (n+1)=>if parts.toList.map (·.1)=List.range len/\MC C.P e=true then if len=0/\(o.dst.map (C.iu fid)).getD false=true then some (.op (.GB (n+1)) [] o.dst true none) else(Bm C U (parts.toList.map (·.2))).map λargs=> .op (.Cl (n+1)) args o.dst true none else none
   |_=>none
  |_=>none
 | .load t x=>match o.dst with
  |some d=>L1 C U t x d (sk ops d)
  |none=>none
 | .store t x y=>match o.dst with
  |none=>JA C U t x y
  |some _=>none
 | .nilCheck x=>match x,D8 C U x,o.dst with
  | .tmp s,some (.box _ _ _),some d=>some (.pure [(d,.E8 s 0)])
  |_,some (.E8 s k),some d=>some (.pure [(d,.E8 s k)])
  |x,_,dst=>Ui .My dst (Bm C U [x])
 | .binOp op t x y _=>match QT C.P op t with
  |some p=>Ui p o.dst (Bm C U [x,y])
  |none=>none
 | .unOp op _ x=>Ui (.un op) o.dst (Bm C U [x])
 | .convert src dst x=>match Xb C src dst with
  |some (some .Zo)=>(ER C U x).map λv=> .Zo v o.dst
  |some (some .s2b)=>if(o.dst.map (C.iu fid)).getD false then(ER C U x).map λv=> .E0 v o.dst else Ui .s2b o.dst (Bm C U [x])
  |some (some p)=>Ui p o.dst (Bm C U [x])
  |_=>none
 | .makeFunc fn first captured=>match o.dst,Bm C U first.toList,Hw C U captured.toList with
  |some d,some a,some (b,fz)=>some (.closure fn a b fz d)
  |_,_,_=>none
 | .makeMap _ none=>some (.NY o.dst)
 | .makeSlice t l c=>match C.P.underlying t with
  |some (.slice e)=>match BR C.P e,Kg C.P e,GY C.P e,ER C U l,ER C U c with
   |some (n+1),some (b+1),some z,some l,some c=>some (.make (n+1) (b+1) z.cells l c o.dst)
   |_,_,_,_,_=>none
  |_=>none
 | .insert t m k v| .mapUpdate t m k v=>match C.P.underlying t with
  |some (.map kt _)=>match o.dst,C.P.underlying kt,Bm C U [m,k,v] with
   |none,some .string,some [m,k,v]=>some (.H6 m k v)
   |none,some (.int .i64),some [m,k,v]=>some (.mem .Uc [m,k,v] none)
   |_,_,_=>none
  |_=>none
 | .lookup t m k ok=>match C.P.underlying t with
  |some (.map kt e)=>match C.P.underlying kt,GY C.P e,Bm C U [m,k] with
   |some .string,some z,some [m,k]=>some (.MB z ok m k o.dst)
   |some (.int .i64),some z,some [m,k]=>some (.mem (.ij z ok) [m,k] o.dst)
   |_,_,_=>none
  |_=>none
 | .slice t x (some lo) (some hi) (some mx)=>match C.P.underlying t with
  |some (.slice e)=>match BR C.P e with
   |some (n+1)=>Uj (.pC (n+1)) o.dst (Bm C U [x,lo,hi,mx])
   |_=>none
  |_=>none
 | .makeInterface t x=>match C.P.underlying t with
  |some (.interface _)=>none
  |some _=>Uj (.aGO t) o.dst (Bm C U [x])
  |none=>none
 | .mapEntry t m k=>match C.P.underlying t with
  |some (.map kt e)=>match C.P.underlying kt,GY C.P e with
   |some (.int .i64),some z=>Uj (.OB z) o.dst (Bm C U [m,k])
   |some .string,some z=>Uj (.WW z) o.dst (Bm C U [m,k])
   |_,_=>none
  |_=>none
 | .entryStore _ m s v=>match o.dst with
  |none=>Uj .KO none (Bm C U [m,s,v])
  |some _=>none
 | .slice t x lo hi none=>match C.P.underlying t with
  |some .string=>Ui (.PQ 0 true lo.isSome hi.isSome) o.dst (Bm C U (x::(lo.toList++hi.toList)))
  |some (.slice e)=>match BR C.P e with
   |some (n+1)=>if(o.dst.map (C.iu fid)).getD false then Uj (.ic (n+1) lo.isSome hi.isSome) o.dst (Bm C U (x::(lo.toList++hi.toList)))
    else Ui (.PQ (n+1) false lo.isSome hi.isSome) o.dst (Bm C U (x::(lo.toList++hi.toList)))
   |_=>none
  |_=>none
 | .fieldAddr t x f=>match IE C.P t f,o.dst with
  |some (off,_),some d=>match x,D8 C U x with
   | .tmp s,some (.box _ _ _)=>some (.pure [(d,.E8 s off)])
   |_,some (.E8 s k)=>some (.pure [(d,.E8 s (k+off))])
   |x,_=>Ui (.FN off) (some d) (Bm C U [x])
  |_,_=>none
 | .field t x f=>match IE C.P t f with
  |some (off,sh)=>Ui (.part off sh) o.dst (Bm C U [x])
  |none=>none
 | .indexAddr t x i=>match C.P.underlying t with
  |some (.slice e)=>match BR C.P e with
   |some (n+1)=>Ui (.F0 (n+1)) o.dst (Bm C U [x,i])
   |_=>none
  |some (.array len e)=>match BR C.P e with
   |some (n+1)=>if len<=1 then none else Ui (.Vc len (n+1)) o.dst (Bm C U [x,i])
   |_=>none
  |_=>none
 | .index t x i=>match C.P.underlying t with
  |some .string=>Ui .SN o.dst (Bm C U [x,i])
  |some (.array len e)=>match BR C.P e,Fc C.P e with
   |some (n+1),some sh=>Ui (.aB1 len (n+1) sh) o.dst (Bm C U [x,i])
   |_,_=>none
  |_=>none
 | .extract x i=>Ui (.ext i) o.dst (Bm C U [x])
 | .call c=>RV C fid U c o.dst
 |_=>none
def BL.EG(U:BL):List (Nat×Eu)->BL
 |[]=>U
 |(s,x)::ws=>BL.EG (U.set s x) ws
def BL.put(U:BL)(dst:Option Nat)(x:Eu):BL:=
 match dst with
 |some d=>U.set d x
 |none=>U
def BL.DE(U:BL):Option (Nat×Aa)->BL
 |some (s,v)=>U.set s (.val v)
 |none=>U
def Xc(n:Nat)(cs:List Aa):List Aa:=(List.range n).map λi=>cs.getD i .nilIface
def Xd(cs:List Aa)(off n:Nat)(vs:List Aa):List Aa:=cs.take off++vs++cs.drop (off+n)
def SU(owned:List Nat)(off n:Nat)(BN:Bool):List Nat:=
 let rest:=owned.filter λo=> !(off<=o&&o<off+n)
 if BN then off::rest else rest
def EF.MD(C:FT)(U:BL)(K:BL->IT):EF->IT
 | .pure ws=>K (U.EG ws)
 | .op p args dst BN e=> .op p args λv=>K ((U.DE e).put dst (if BN then .BN v else .val v))
 | .box n v d=> .cells n v λcs=>K (U.set d (.box 0 (Xc n cs) []))
 | .closure fn a b fz d=>K ((U.EG (fz.map λ(s,cs)=>(s,.val (.B4 cs)))).set d (.val (.func fn a b)))
 | .NH s off n v BN e ver cells owned=> .cells n v λvs=>K ((U.DE e).set s (.box (ver+1) (Xd cells off n (Xc n vs)) (SU owned off n BN)))
 | .load n p dst=> .load n p λv=>K (U.put dst (.val v))
 | .store n p v=> .store n p v (K U)
 | .alloc n v dst=> .alloc n v λp=>K (U.put dst (.val p))
 | .call f args dst=> .call f args λr=>K (U.put dst (if C.Kf f then .BN r else .val r))
 | .El g args dst=> .El g args λr=>K (U.put dst (.val r))
 | .AQ f args dst=> .AQ f args λr=>K (U.put dst (.val r))
 | .NY dst=> .NY λm=>K (U.put dst (.val m))
 | .H6 m k v=> .H6 m k v (K U)
 | .MB z ok m k dst=> .MB z ok m k λv=>K (U.put dst (.val v))
 | .make z b zero l c dst=> .make z b zero l c λv=>K (U.put dst (.val v))
 | .JS z b s x dst e=> .JS z b s x λv=>K ((U.DE e).put dst (.val v))
 | .F8 z b s x dst=> .F8 z b s x λv=>K (U.put dst (.val v))
 | .Gn z b s x dst e=> .Gn z b s x λv=>K ((U.DE e).put dst (.BN v))
 | .E0 s dst=> .E0 s λv=>K (U.put dst (.val v))
 | .Zo v dst=> .VR v λv=> .op .Zo [v] λu=>K (U.put dst (.val u))
 | .mem o args dst=> .mem o args λv=>K (U.put dst (if o.sd then .undef else .val v))
def EF.news:EF->List Nat
 | .pure ws=>ws.filterMap λ(s,x)=>match x with| .box 0 _ _=>some s|_=>none
 | .box _ _ d=>[d]
 | .closure _ _ _ fz _=>fz.map (·.1)
 |_=>[]
inductive aGQ where
 |N0 (run:Bool)
 |ask (pD:Nat) (v:Aa) (want:Bool)
 |bad
def I2(ops:List Oper)(U:BL)(o:Oper):aGQ:=
 match o.guard with
 |none=> .N0 true
 |some (j,want)=>match(ops[j]?).bind (·.dst) with
  |some s=>match U.at s with
   | .PH b=> .N0 (b==want)
   | .val v=> .ask s v want
   | .skip=> .N0 false
   |_=> .bad
  |none=> .bad
def sm(C:FT)(fid:FuncId)(ops:List Oper)(U:BL)(o:Oper)(K:BL->IT):IT:=
 match Ga C fid ops U o with
 |some r=>r.MD C (U.drop r.news) K
 |none=> .fail
def Uk(C:FT)(fid:FuncId)(ops:List Oper)(U:BL)(o:Oper)(K:BL->IT):IT:=
 match I2 ops U o with
 | .N0 true=>sm C fid ops U o K
 | .N0 false=>K (U.put o.dst .skip)
 | .ask s v want=>
  let t:=if want then sm C fid ops (U.set s (.PH true)) o K else K (BL.put (U.set s (.PH true)) o.dst .skip)
  let e:=if want then K (BL.put (U.set s (.PH false)) o.dst .skip) else sm C fid ops (U.set s (.PH false)) o K
  .AJ v t e
 | .bad=> .fail
def vD(C:FT)(fid:FuncId)(ops:List Oper):List Oper->BL->(BL->IT)->IT
 |[],U,K=>K U
 |o::rest,U,K=>Uk C fid ops U o λU=>vD C fid ops rest U K
end Go.Am
end
section
namespace Go.Am
def Oper.VS(o:Oper):List Nat:=o.after.toList.filterMap λe=>if Region.binds .any e then some e.on else none
def bit(i:Nat):Nat:=2^i
def Lv(DP:List Nat):List Oper->List Nat
 |[]=>DP
 |o::rest=>Lv (DP++[(Oper.VS o).foldl (λm e=>m|||bit e|||DP.getD e 0) 0]) rest
def Xe(ops:List Oper):List Nat:=Lv [] ops
def Em(an:List Nat)(i j:Nat):Bool:=(an.getD j 0).testBit i
def aAQ(o:Oper):Bool:=
 match o.op with
 | .call c=>(match c.callee with| .builtin .copy| .builtin .clear=>true| .builtin _=>false|_=>true)
 | .store _ _ _| .insert _ _ _ _| .mapUpdate _ _ _ _| .makeMap _ _| .makeSlice _ _ _| .mapEntry _ _ _| .entryStore _ _ _ _=>true
 |_=>false
def Xf(all:List Oper)(DP:List Nat):List Oper->List Nat
 |[]=>DP
 |o::rest=>Xf all (DP++[(Oper.VS o).foldl (λm e=>Nat.max m (DP.getD e 0+(match all[e]? with|some x=>if aAQ x then 1 else 0|none=>0))) 0]) rest
def Đ(ops:List Oper):List Nat:=
 let st:=Xf ops [] ops
 let idx:=List.range ops.length
 let SI:=λi=>match ops[i]? with|some o=>aAQ o|none=>false
 (List.range (ops.length+1)).flatMap λs=>(idx.filter λi=>st.getD i 0==s&& !SI i)++(idx.filter λi=>st.getD i 0==s&&SI i)
structure FP where
 rs:List Nat
 wf:List Nat
 hl:Bool
 SI:Bool
 news:List Nat
 lr:List Nat
 Ul:Bool
 deriving Inhabited
def KS(xs:List Operand):List Nat:=xs.filterMap λ| .tmp t=>some t|_=>none
def OD(C:FT)(U:BL)(x:Operand):Option Nat:=
 match F9 C U x with
 |some (.PT s _ _ _ _)=>some s
 |_=>none
def Ig(C:FT)(U:BL)(o:Oper):List Nat:=
 match o.op with
 | .load _ x=>(OD C U x).toList
 | .store _ x _=>(OD C U x).toList
 | .makeFunc _ _ captured=>KS captured.toList
 |_=>[]
def EF.wf:EF->List Nat
 | .pure ws=>ws.map (·.1)
 | .op _ _ dst _ a=>dst.toList++(a.map (·.1)).toList
 | .box _ _ d=>[d]
 | .closure _ _ _ fz d=>d::fz.map (·.1)
 | .NH s _ _ _ _ a _ _ _=>s::(a.map (·.1)).toList
 | .load _ _ dst| .alloc _ _ dst| .call _ _ dst| .El _ _ dst| .AQ _ _ dst| .NY dst| .MB _ _ _ _ dst| .make _ _ _ _ _ dst| .E0 _ dst| .Zo _ dst| .F8 _ _ _ _ dst| .mem _ _ dst=>dst.toList
 | .JS _ _ _ _ dst a| .Gn _ _ _ _ dst a=>dst.toList++(a.map (·.1)).toList
 | .store _ _ _| .H6 _ _ _=>[]
def EF.hl:EF->Bool
 | .load _ _ _| .MB _ _ _ _ _=>true
 |_=>false
def EF.SI:EF->Bool
 | .store _ _ _| .alloc _ _ _| .call _ _ _| .El _ _ _| .NY _| .H6 _ _ _| .make _ _ _ _ _ _| .JS _ _ _ _ _ _| .E0 _ _| .Zo _ _| .F8 _ _ _ _ _| .Gn _ _ _ _ _ _| .mem _ _ _=>true
 |_=>false
def Fp(ops:List Oper)(o:Oper):List Nat:=
 match o.guard with
 |none=>[]
 |some (j,_)=>((ops[j]?).bind (·.dst)).toList
def Wp(xs:List Eu):List Nat:=xs.filterMap λ| .E8 t _=>some t|_=>none
def EF.vE:EF->List Nat
 | .pure ws=>Wp (ws.map (·.2))
 |_=>[]
def EF.Ul(U:BL)(r:EF):Bool:=
 NI U r.news&&match r with
  | .load _ _ (some d)=>decide (d<U.length)
  | .load _ _ none| .MB _ _ _ _ _| .closure _ _ _ (_::_) _=>false
  |_=>true
def VT(C:FT)(ops:List Oper)(U:BL)(o:Oper)(r:Option EF):FP:=
 match r with
 |none=>{rs:=Fp ops o,wf:=o.dst.toList,hl:=false,SI:=false,news:=[],lr:=Wp (o.dst.toList.map U.at),Ul:=true}
 |some r=>{rs:=Fp ops o++KS o.op.operands.toList++Ig C U o,wf:=r.wf++o.dst.toList,hl:=r.hl,SI:=r.SI,news:=r.news,lr:=Wp ((r.wf++o.dst.toList).map U.at)++r.vE,Ul:=r.Ul U}
def Ve(a b:List Nat):Bool:=a.any λx=>b.contains x
def FP.apart(x y:FP):Bool:= !Ve x.wf (y.rs++y.wf)&& !Ve y.wf x.rs&& !Ve x.lr y.news&& !Ve y.lr x.news
def RW(x y:FP):Bool:=x.Ul&&y.Ul&&x.apart y&& !(x.SI&&y.SI)&& !(x.SI&&y.hl)
def Xg(n:Nat)(an:List Nat)(a:List (Nat×FP)):Bool:=
 go a&&(List.range n).all (λi=>(a.map (·.1)).contains i)
where
 go:List (Nat×FP)->Bool
  |[]=>true
  |(i,f)::rest=>rest.all (λ(j,g)=>i != j&& !Em an j i&&(Em an i j||RW f g))&&go rest
structure KJ where
 idx:Nat
 n:Option Nat
 p:Aa
 v:Aa
def SV(an:List Nat)(i:Nat):List KJ->IT->IT
 |[],t=>t
 |f::fs,t=>if Em an f.idx i then SV an i fs t else .load f.n f.p λv=> .same f.v v (SV an i fs t)
def No(i:Nat)(r:EF)(U:BL)(fl:List KJ):List KJ:=
 match r with
 | .load n p (some d)=>match U.at d with
  | .val v=>{idx:=i,n,p,v}::fl
  |_=>fl
 |_=>fl
def SX(ops:List Oper)(i:Nat):Bool:=ops.any λo=>match o.guard with|some (j,_)=>j==i|none=>false
def vF(d:Option Nat)(U:BL)(K:BL->IT):IT:=
 match d with
 |none=>K U
 |some d=>match U.at d with
  | .val v=> .AJ v (K (U.set d (.PH true))) (K (U.set d (.PH false)))
  |_=>K U
def RX(C:FT)(fid:FuncId)(ops:List Oper)(an:List Nat):List Nat->List (Nat×FP)->List KJ->BL->(BL->IT)->IT
 |[],a,_,U,K=>if Xg ops.length an a.reverse then K U else .fail
 |i::rest,a,fl,U,K=>
  match ops[i]? with
  |none=> .fail
  |some o=>match I2 ops U o with
   | .N0 true=>match Ga C fid ops U o with
    |none=> .fail
    |some r=>r.MD C (U.drop r.news) λc=>
     let next:=vF (if SX ops i then o.dst else none) c λb=>RX C fid ops an rest ((i,VT C ops U o (some r))::a) (No i r c fl) b K
     if r.SI then SV an i fl next else next
   | .N0 false=>RX C fid ops an rest ((i,VT C ops U o none)::a) fl (U.put o.dst .skip) K
   |_=> .fail
def Fh(ops:List Oper)(o:Oper):List Nat:=
 o.dst.toList++match o.op with
  | .move (.tmp s)=>(match o.dst with|some d=>if sk ops d then[s] else[]|none=>[])
  | .assign (.tmp s)=>[s]
  | .store _ _ (.tmp s)=>[s]
  | .call c=>(match c.callee with| .builtin .append=>KS c.args.toList|_=>[])
  | .makeFunc _ _ captured=>KS captured.toList
  |_=>[]
def C3:Code->List Nat
 | .region _ ops _=>ops.toList.flatMap (Fh ops.toList)
 | .seq a b=>C3 a++C3 b
 | .cond _ a b=>C3 a++C3 b
 | .block _ b=>C3 b
 | .loop b=>C3 b
 | .scope b=>C3 b
 |_=>[]
def Cc:Code->List Nat
 | .region _ ops _=>ops.toList.flatMap (Fp ops.toList)
 | .seq a b=>Cc a++Cc b
 | .cond (.tmp s) a b=>s::(Cc a++Cc b)
 | .cond _ a b=>Cc a++Cc b
 | .block _ b=>Cc b
 | .loop b=>Cc b
 | .scope b=>Cc b
 |_=>[]
def BL.clear(U:BL):List Nat->BL
 |[]=>U
 |s::ss=>BL.clear (U.set s .undef) ss
def GC:Code->Option Nat
 | .region id _ _=>some id
 | .seq a b=>(GC a).orElse λ_=>GC b
 | .cond _ a b=>(GC a).orElse λ_=>GC b
 | .block _ b| .loop b| .scope b=>GC b
 |_=>none
def Xh(U:BL):List (Nat×Sh)->Option (List Aa)
 |[]=>some []
 |(s,sh)::l=>
  let v:=match sh,U.at s with
   | .val,x=>x.Hv
   | .BN,.BN v=>some v
   | .box n ow,.box _ cs OA=>if cs.length=n/\ow.all (OA.contains ·) then some (.agg cs) else none
   |_,_=>none
  match v,Xh U l with
  |some v,some vs=>some (v::vs)
  |_,_=>none
def aA:Eu->Nat
 | .box ver _ _=>ver
 |_=>0
def JF(vs:List Aa):List (Nat×Sh)->Nat->BL->(BL->IT)->IT
 |[],_,U,K=>K U
 |(s,.val)::l,i,U,K=>JF vs l (i+1) (U.set s (.val (vs.getD i .nilIface))) K
 |(s,.BN)::l,i,U,K=>JF vs l (i+1) (U.set s (.BN (vs.getD i .nilIface))) K
 |(s,.box n ow)::l,i,U,K=> .cells n (vs.getD i .nilIface) λcs=>JF vs l (i+1) (U.set s (.box (aA (U.at s)+1) (Xc n cs) ow)) K
def pE(U:BL)(a:BL)(l:List (Nat×Sh)):Bool:=
 (List.range U.length).all λs=>match U.at s with
  | .box ver _ _=>(l.map (·.1)).contains s||(match a.at s with| .box Gb _ _=>Gb==ver|_=>false)
  | .E8 _ _=>(l.map (·.1)).contains s||(match a.at s with| .E8 _ _=>true|_=>false)
  |_=>true
def Dt(b:BL)(l:List (Nat×Sh))(x:F6)(a:BL):IT:=
 if pE b a l then match Xh a l with
  |some vs=> .ret x vs
  |none=> .fail
 else .fail
def sn(l:List (Nat×Sh))(ws:List Nat)(U:BL):Bool:=l.all λ(s,_)=>ws.contains s||(match U.at s with| .box _ _ _=>true|_=>false)
def cX(ops:List Oper):Bool:=ops.zipIdx.all λ(o,i)=>(Oper.VS o).all λe=>decide (e<i)
def SY(C:FT)(fid:FuncId)(ops:List Oper)(draw:Bool)(U:BL)(K:BL->IT):IT:=
 if draw then(if cX ops then RX C fid ops (Xe ops) (Đ ops) [] [] U K else .fail) else vD C fid ops ops U K
def cY(key:Nat)(U:BL)(ws:List Nat)(l:List (Nat×Sh))(t:(F6->BL->IT)->IT)(K:F6->BL->IT):IT:=
 let b:=U.clear ws
 if sn l ws U then .Gp key (t λx a=>Dt b l x a) λx vs=>JF vs l 0 b λa=>K x a else .fail
def aAR(K:F6->BL->IT):F6->BL->IT
 | .normal,_=> .fail
 | .exit i,U=>K (.exit i) U
 | .ret,U=>K .ret U
def Gc(C:FT)(fid:FuncId):Code->BL->(F6->BL->IT)->IT
 | .skip,U,K=>K .normal U
 | .region id ops draw,U,K=>match C.aAO fid id with
  |none=>SY C fid ops.toList draw U (K .normal)
  |some l=>cY (200000+id) U (ops.toList.flatMap (Fh ops.toList)++ops.toList.flatMap (Fp ops.toList)) l (λK=>SY C fid ops.toList draw U (K .normal)) K
 | .seq a b,U,K=>Gc C fid a U λx d=>match x with
  | .normal=>Gc C fid b d K
  | .exit i=>K (.exit i) d
  | .ret=>K .ret d
 | .cond c a b,U,K=>match c,D8 C U c with
  |_,some (.PH true)=>Gc C fid a U K
  |_,some (.PH false)=>Gc C fid b U K
  | .tmp s,some (.val v)=>match C.aAN fid s with
   |none=> .AJ v (Gc C fid a (U.set s (.PH true)) K) (Gc C fid b (U.set s (.PH false)) K)
   |some l=>cY (100000+s) U (s::(C3 a++C3 b++Cc a++Cc b)) l (λK=> .AJ v (Gc C fid a (U.set s (.PH true)) K) (Gc C fid b (U.set s (.PH false)) K)) K
  |_,_=> .fail
 | .block id b,U,K=>Gc C fid b U λx d=>match x with
  | .normal=>K .normal d
  | .exit i=>if i=id then K .normal d else K (.exit i) d
  | .ret=>K .ret d
 | .loop b,U,K=>
  let l:=C.aB3 fid ((GC b).getD 0)
  let ws:=C3 b++Cc b
  let f:=U.clear ws
  if sn l ws U then match Xh U l with
   |none=> .fail
   |some init=> .loop ((GC b).getD 0) init (λvs=>JF vs l 0 f λe=>Gc C fid b e λx d=>Dt f l x d) λx vs=>JF vs l 0 f λd=>aAR K x d
  else .fail
 | .exit id,U,K=>K (.exit id) U
 | .ret,U,K=>K .ret U
 | .scope b,U,K=>Gc C fid b U K
 | .label _,U,K=>K .normal U
 |_,_,_=> .fail
def Gv(C:FT)(U:BL):List ResultVar->List Aa->(List Aa->IT)->IT
 |[],DP,K=>K DP.reverse
 | .tmp t::rs,DP,K=>match(U.at t).Hv with
  |some v=>Gv C U rs (v::DP) K
  |none=> .fail
 | .cell a t::rs,DP,K=>match Fc C.P t,F9 C U (.tmp a) with
  |some none,some (.PT _ o _ cs _)=>if o<cs.length then Gv C U rs (cs.getD o .nilIface::DP) K else .fail
  |some (some n),some (.PT _ o _ cs _)=>if o+n<=cs.length then Gv C U rs (.agg ((cs.drop o).take n)::DP) K else .fail
  |some n,some (.ptr p)=> .load n p λv=>Gv C U rs (v::DP) K
  |_,_=> .fail
def QU(U:BL):List ResultVar->Bool
 |[.tmp t]=>match U.at t with| .BN _=>true|_=>false
 |_=>false
def vG(C:FT)(U:BL):List (Nat×Nat)->IT->IT
 |[],t=>t
 |(s,off)::l,t=>match(U.at s).Hv with
  |some p=> .IC off p (vG C U l t)
  |none=> .fail
def PV:List Aa->List Aa->(List Aa->IT)->IT
 |[],DP,K=>K DP.reverse
 |v::vs,DP,K=> .VR v λv=>PV vs (v::DP) K
def Vf:List Aa->IT
 |[v]=> .ret .ret [v]
 |vs=> .ret .ret [.tuple vs]
def j2(C:FT)(fid:FuncId)(fn:Func)(U:BL):IT:=
 if C.Kf fid&& !QU U fn.results.toList then .fail
 else vG C U (C.sj fid) (Gv C U fn.results.toList [] λvs=>if C.sg fid then PV vs [] Vf else Vf vs)
def so(C:FT)(fid:FuncId)(fn:Func)(args:List Aa):IT:=
 match fn.body with
 |none=> .fail
 |some c=>Gc C fid c (args.map .val++List.replicate (fn.ntmps-args.length) .undef) λx U=>match x with
  | .normal=>j2 C fid fn U
  | .exit _=> .fail
  | .ret=>j2 C fid fn U
def aGR(C:FT)(fid:FuncId)(args:List Aa):IT:=
 match C.P.funcs[EU fid]? with
 |some fn=>if fn.name== "runtime.NumGoroutine" then .fail else so C fid fn args
 |none=> .fail
def B7(C:FT)(fid:FuncId)(args:List Aa):IT:=
 match C.aB4 fid with
 |some p=>p args
 |none=>aGR C fid args
abbrev g(l:List Aa)(i:Nat):Aa:=l.getD i .nilIface
abbrev I(n:Int):Aa:= .int .i64 n
abbrev S(s:Ad):Aa:= .str s
abbrev tt:Aa:= .bool true
abbrev ff:Aa:= .bool false
abbrev FT.run(C:FT):Nat->IT->Ae->Option J7:=IT.run (B7 C)
end Go.Am
end
end
section
namespace Go.Am
def IT.JT{fn:FuncId->List Aa->IT}{rec aGS:IT->Ae->Option J7}(hr:∀t h r,rec t h=some r->aGS t h=some r):
  ∀(t:IT) (h:Ae) (r:J7),IT.step fn rec t h=some r->IT.step fn aGS t h=some r:=by
 intro t;induction t with
 |ret x vs=>intro h r d;simpa[IT.step] using d
 |fail=>intro h r d;simp[IT.step] at d
 |op o args k ih=>
  intro h r d;simp only[IT.step] at d⊢;split at d;.exact ih _ _ _ d
  .cases d
 |cells n v k ih=>
  intro h r d;simp only[IT.step] at d⊢;split at d;.rename_i hc;rw[if_pos hc];exact ih _ _ _ d
  .cases d
 |AJ c t e i q=>
  intro h r d;simp only[IT.step] at d⊢;split at d;.exact i _ _ d
  .exact q _ _ d
  .cases d
 |load n p k ih=>
  intro h r d;simp only[IT.step] at d⊢;split at d;.exact ih _ _ _ d
  .cases d
 |store n p v k ih=>
  intro h r d;simp only[IT.step] at d⊢;split at d;.exact ih _ _ d
  .cases d
 |alloc n v k ih=>
  intro h r d;simp only[IT.step] at d⊢;split at d;.exact ih _ _ _ d
  .cases d
 |call f args k ih=>
  intro h r d;simp only[IT.step] at d⊢;split at d;.rename_i h1;rw[hr _ _ _ h1];exact ih _ _ _ d
  .cases d
 |El g args k ih=>
  intro h r d;simp only[IT.step] at d⊢;split at d
  .rename_i f a ht;split at d;.rename_i h1;simp only[hr _ _ _ h1];exact ih _ _ _ d
   .cases d
  .cases d
 |AQ f args k ih=>
  intro h r d;simp only[IT.step] at d⊢;split at d
  .rename_i IZ;rw[if_pos IZ];split at d
   .rename_i h1;rw[hr _ _ _ h1];split at d;.rename_i py;simp only[py,BM];exact ih _ _ _ d
    .cases d
   .cases d
  .cases d
 |loop key init body k l j=>
  intro h r d;simp only[IT.step] at d⊢;split at d;.rename_i h1;rw[l _ _ _ h1];exact hr _ _ _ d
  .rename_i x vs h1 hne hx;rw[l _ _ _ hx];cases x<;>first|exact j _ _ _ _ d|exact absurd rfl hne
  .cases d
 |Gp key t k i j=>
  intro h r d;simp only[IT.step] at d⊢;split at d;.rename_i h1;rw[i _ _ h1];exact j _ _ _ _ d
  .cases d
 |same a b k ih=>
  intro h r d;simp only[IT.step] at d⊢;split at d;.rename_i hc;rw[if_pos hc];exact ih _ _ d
  .cases d
 |NY k ih=>intro h r d;simp only[IT.step] at d⊢;exact ih _ _ _ d
 |H6 m key v k ih=>
  intro h r d;simp only[IT.step] at d⊢;split at d;.exact ih _ _ d
  .cases d
 |MB z ok m key k ih=>
  intro h r d;simp only[IT.step] at d⊢;split at d;.exact ih _ _ _ d
  .cases d
 |make size bytes zero len cap k ih=>
  intro h r d;simp only[IT.step] at d⊢;split at d;.exact ih _ _ _ d
  .cases d
 |JS size bytes s x k ih=>
  intro h r d;simp only[IT.step] at d⊢;split at d;.exact ih _ _ _ d
  .cases d
 |E0 s k ih=>
  intro h r d;simp only[IT.step] at d⊢;split at d;.exact ih _ _ _ d
  .cases d
 |VR v k ih=>
  intro h r d;simp only[IT.step] at d⊢;split at d;.exact ih _ _ _ d
  .cases d
 |IC off p k ih=>
  intro h r d;simp only[IT.step] at d⊢;split at d;.exact ih _ _ d
  .cases d
 |F8 size bytes s x k ih=>
  intro h r d;simp only[IT.step] at d⊢;split at d;.exact ih _ _ _ d
  .cases d
 |Gn size bytes s x k ih=>
  intro h r d;simp only[IT.step] at d⊢;split at d;.exact ih _ _ _ d
  .cases d
 |mem o args k ih=>
  intro h r d;simp only[IT.step] at d⊢;split at d;.exact ih _ _ _ d
  .cases d
 |u9 f args k ih=>
  intro h r d;simp only[IT.step] at d⊢;split at d
  .rename_i h1;rw[hr _ _ _ h1];split at d;.rename_i py;simp only[py,BM];exact ih _ _ _ d
   .cases d
  .cases d
def IT.sq{fn:FuncId->List Aa->IT}:∀(n:Nat) (t:IT) (h:Ae) (r:J7),IT.run fn n t h=some r->IT.run fn (n+1) t h=some r:=by
 intro n;induction n with
 |zero=>intro t h r a;simp[IT.run] at a
 |succ n ih=>intro t h r a;exact IT.JT (λt h r=>ih t h r) t h r a
def IT.Ij{fn:FuncId->List Aa->IT}{n m:Nat}(hnm:n<=m){t:IT}{h:Ae}{r:J7}(a:IT.run fn n t h=some r):IT.run fn m t h=some r:=by
 induction hnm with
 |refl=>exact a
 |step _ ih=>exact IT.sq _ _ _ _ ih
abbrev KE:=F6->List Aa->Ae->Prop
def W(C:FT)(t:IT)(Q:KE)(h:Ae):Prop:=∃n x vs h',C.run n t h=some (x,vs,h')/\Q x vs h'
section
variable{C:FT}{Q:KE}{h:Ae}
def W.mono{t:IT}{Q':KE}(hw:W C t Q h)(hq:∀x vs h',Q x vs h'->Q' x vs h'):W C t Q' h:=
 let⟨n,x,vs,h',hr,q⟩:=hw;⟨n,x,vs,h',hr,hq _ _ _ q⟩
def aAS{x:F6}{vs:List Aa}(hq:Q x vs h):W C (.ret x vs) Q h:=⟨1,x,vs,h,rfl,hq⟩
def CS{t:IT}(a:∃n x vs h',IT.step (B7 C) (C.run n) t h=some (x,vs,h')/\Q x vs h'):W C t Q h:=
 let⟨n,x,vs,h',hr,q⟩:=a;⟨n+1,x,vs,h',hr,q⟩
def W.succ{t:IT}(a:W C t Q h):∃n x vs h',IT.step (B7 C) (C.run n) t h=some (x,vs,h')/\Q x vs h':=by
 obtain⟨n,x,vs,h',hr,q⟩:=a;cases n with
 |zero=>simp[FT.run,IT.run] at hr
 |succ n=>exact⟨n,x,vs,h',hr,q⟩
def aGT{o:Zf}{args:List Aa}{k:Aa->IT}{v:Aa}(a:Az o args=some v)(hw:W C (k v) Q h):W C (.op o args k) Q h:=by obtain⟨n,x,vs,h',hr,q⟩:=hw.succ;exact CS ⟨n,x,vs,h',by simp only[IT.step,a];exact hr,q⟩
def vH{n:Nat}{v:Aa}{k:List Aa->IT}(a:v.cells.length=n)(hw:W C (k v.cells) Q h):W C (.cells n v k) Q h:=by obtain⟨m,x,vs,h',hr,q⟩:=hw.succ;exact CS ⟨m,x,vs,h',by simp only[IT.step,a,BM];exact hr,q⟩
def vI{b:Bool}{t e:IT}(ht:b=true->W C t Q h)(he:b=false->W C e Q h):W C (.AJ (.bool b) t e) Q h:=by
 cases b with
 |true=>obtain⟨m,x,vs,h',hr,q⟩:=(ht rfl).succ;exact CS ⟨m,x,vs,h',by simp only[IT.step];exact hr,q⟩
 |false=>obtain⟨m,x,vs,h',hr,q⟩:=(he rfl).succ;exact CS ⟨m,x,vs,h',by simp only[IT.step];exact hr,q⟩
def sr{n:Option Nat}{p v:Aa}{k:Aa->IT}(a:Bg h n p=some v)(hw:W C (k v) Q h):W C (.load n p k) Q h:=by obtain⟨m,x,vs,h',hr,q⟩:=hw.succ;exact CS ⟨m,x,vs,h',by simp only[IT.step,a];exact hr,q⟩
def vJ{n:Nat}{p v:Aa}{k:IT}{h1:Ae}(a:CR h n p v=some h1)(hw:W C k Q h1):W C (.store n p v k) Q h:=by obtain⟨m,x,vs,h',hr,q⟩:=hw.succ;exact CS ⟨m,x,vs,h',by simp only[IT.step,a];exact hr,q⟩
def vK{n:Nat}{v:Aa}{k:Aa->IT}(a:v.cells.length=n)(hw:W C (k (.ptr (some (h.length,0)))) Q (h++[.cells v.cells])):W C (.alloc n v k) Q h:=by obtain⟨m,x,vs,h',hr,q⟩:=hw.succ;exact CS ⟨m,x,vs,h',by simp only[IT.step,WZ,a,BM];exact hr,q⟩
def su{a b:Aa}{k:IT}(c:Aa.beq a b=true)(hw:W C k Q h):W C (.same a b k) Q h:=by obtain⟨m,x,vs,h',hr,q⟩:=hw.succ;exact CS ⟨m,x,vs,h',by simp only[IT.step,c,BM];exact hr,q⟩
def sx{k:Aa->IT}(hw:W C (k (.map (some h.length))) Q (h++[.map []])):W C (.NY k) Q h:=by obtain⟨m,x,vs,h',hr,q⟩:=hw.succ;exact CS ⟨m,x,vs,h',by simp only[IT.step];exact hr,q⟩
def sy{m key v:Aa}{k:IT}{h1:Ae}(a:Ry h m key v=some h1)(hw:W C k Q h1):W C (.H6 m key v k) Q h:=by obtain⟨n,x,vs,h',hr,q⟩:=hw.succ;exact CS ⟨n,x,vs,h',by simp only[IT.step,a];exact hr,q⟩
def s_{z:Aa}{ok:Bool}{m key v:Aa}{k:Aa->IT}(a:Po h z ok m key=some v)(hw:W C (k v) Q h):W C (.MB z ok m key k) Q h:=by obtain⟨n,x,vs,h',hr,q⟩:=hw.succ;exact CS ⟨n,x,vs,h',by simp only[IT.step,a];exact hr,q⟩
def pF{size bytes:Nat}{zero:List Aa}{len cap v:Aa}{k:Aa->IT}{h1:Ae}(a:SP h size bytes zero len cap=some (h1,v))(hw:W C (k v) Q h1):W C (.make size bytes zero len cap k) Q h:=by obtain⟨n,x,vs,h',hr,q⟩:=hw.succ;exact CS ⟨n,x,vs,h',by simp only[IT.step,a];exact hr,q⟩
def vL{size bytes:Nat}{s x v:Aa}{k:Aa->IT}{h1:Ae}(a:KP h size bytes s x=some (h1,v))(hw:W C (k v) Q h1):W C (.JS size bytes s x k) Q h:=by obtain⟨n,x,vs,h',hr,q⟩:=hw.succ;exact CS ⟨n,x,vs,h',by simp only[IT.step,a];exact hr,q⟩
def Xi{s v:Aa}{k:Aa->IT}{h1:Ae}(a:I1 h s=some (h1,v))(hw:W C (k v) Q h1):W C (.E0 s k) Q h:=by obtain⟨n,x,vs,h',hr,q⟩:=hw.succ;exact CS ⟨n,x,vs,h',by simp only[IT.step,a];exact hr,q⟩
def aAT{u v:Aa}{k:Aa->IT}{h1:Ae}(a:Lt h u=some (h1,v))(hw:W C (k v) Q h1):W C (.VR u k) Q h:=by obtain⟨n,x,vs,h',hr,q⟩:=hw.succ;exact CS ⟨n,x,vs,h',by simp only[IT.step,a];exact hr,q⟩
def vM{off:Nat}{p:Aa}{k:IT}{h1:Ae}(a:KQ h off p=some h1)(hw:W C k Q h1):W C (.IC off p k) Q h:=by obtain⟨n,x,vs,h',hr,q⟩:=hw.succ;exact CS ⟨n,x,vs,h',by simp only[IT.step,a];exact hr,q⟩
def ta{size bytes:Nat}{s x v:Aa}{k:Aa->IT}{h1:Ae}(a:Gt h size bytes s x=some (h1,v))(hw:W C (k v) Q h1):W C (.F8 size bytes s x k) Q h:=by obtain⟨n,x,vs,h',hr,q⟩:=hw.succ;exact CS ⟨n,x,vs,h',by simp only[IT.step,a];exact hr,q⟩
def aB{size bytes:Nat}{s x v:Aa}{k:Aa->IT}(a:Rz h size bytes s x=some v)(hw:W C (k v) Q h):W C (.Gn size bytes s x k) Q h:=by obtain⟨n,x,vs,h',hr,q⟩:=hw.succ;exact CS ⟨n,x,vs,h',by simp only[IT.step,a];exact hr,q⟩
def aAU{o:r_}{args:List Aa}{v:Aa}{k:Aa->IT}{h1:Ae}(a:D5 o h args=some (h1,v))(hw:W C (k v) Q h1):W C (.mem o args k) Q h:=by obtain⟨n,x,vs,h',hr,q⟩:=hw.succ;exact CS ⟨n,x,vs,h',by simp only[IT.step,a];exact hr,q⟩
def Ev(C:FT)(f:FuncId)(args:List Aa)(h:Ae)(R:Aa->Ae->Prop):Prop:=
 W C (B7 C f args) (λx vs h'=>x= .ret/\∃r,vs=[r]/\R r h') h
def Ev.mono{f:FuncId}{args:List Aa}{R R':Aa->Ae->Prop}(hw:Ev C f args h R)(hr:∀r h',R r h'->R' r h'):Ev C f args h R':=
 W.mono hw λ_ _ _ ⟨hx,r,a,hR⟩=>⟨hx,r,a,hr _ _ hR⟩
def tc{f:FuncId}{args:List Aa}{k:Aa->IT}(hc:Ev C f args h λr h1=>W C (k r) Q h1):W C (.call f args k) Q h:=by obtain⟨n,x,vs,h1,hr,hx,r,b,m,x',H7,h',HM,q⟩:=hc;subst hx;subst b;refine CS ⟨max n m,x',H7,h',?_,q⟩;have a:=IT.Ij (HZ n m) hr;have h2:=IT.Ij (Bn (Ht n m) (Ft _)) HM;simp only[IT.step];simp only[FT.run] at*;rw[a];exact h2
def đ{f:FuncId}{args:List Aa}{k:Aa->IT}(ha:args.all Aa.Nh=true)(hc:Ev C f args [] λr _=>r.Nh=true/\W C (k r) Q h):W C (.AQ f args k) Q h:=by obtain⟨n,x,vs,h1,hr,hx,r,b,IZ,m,x',H7,h',HM,q⟩:=hc;subst hx;subst b;refine CS ⟨max n m,x',H7,h',?_,q⟩;have a:=IT.Ij (HZ n m) hr;have h2:=IT.Ij (Bn (Ht n m) (Ft _)) HM;simp only[IT.step,ha,BM];simp only[FT.run] at*;rw[a];simp only[IZ,BM];exact h2
def td{key:Nat}{t:IT}{k:F6->List Aa->IT}(hw:W C t (λx vs h1=>W C (k x vs) Q h1) h):W C (.Gp key t k) Q h:=by obtain⟨n,x,vs,h1,hr,a⟩:=hw.succ;obtain⟨m,x',H7,h',HM,q⟩:=a.succ;refine CS ⟨max n m,x',H7,h',?_,q⟩;have c:=IT.JT (λt h r=>IT.Ij (fn:=B7 C) (HZ n m)) _ _ _ hr;have b:=IT.JT (λt h r=>IT.Ij (fn:=B7 C) (Ht n m)) _ _ _ HM;simp only[IT.step];simp only[FT.run] at*;rw[c];exact b
end
end Go.Am
end
