/- Lemmas -/
import GoSem.Step
set_option linter.all false
def Ad:=@if_neg
def Af:=@if_pos
def Ag:=@Nat.le_refl
def Ah:=@decide_eq_false
def Ak:=@List.getElem?_append_left
def Al:=@decide_eq_true
def An:=@List.getElem?_eq_some_iff
def Ao:=@List.length_map
def Ap:=@List.getElem?_eq_getElem
def Aq:=@false_implies
def As:=@List.getElem?_set_ne
def Au:=@List.length_append
def Aw:=@true_implies
def Ax:=@List.length_take
def Ay:=@List.mem_append
def Az:=@not_false_eq_true
def AA:=@not_true_eq_false
def AB:=@List.take_succ_eq_append_getElem
def AF:=@List.take_of_length_le
def AG:=@List.drop_eq_getElem_cons
def AI:=@List.append_assoc
def AJ:=@List.getD_eq_getElem?_getD
def AL:=@eq_true
def AN:=@List.getElem_mem
def AO:=@List.getElem?_set_self
def AR:=@Nat.lt_or_ge
def AS:=@List.mem_cons
def AX:=@Int.toNat_natCast
def AY:=@Nat.zero_le
def AZ:=@List.drop_of_length_le
def A4:=@List.Sublist.refl
def A8:=@Array.getElem?_eq_some_iff
def A9:=@List.length_singleton
def Bd:=@List.length_cons
def Be:=@List.length_drop
def Bj:=@List.map_cons
def Bk:=@List.getElem?_append_right
def Bn:=@List.mem_map
def Bp:=@List.mem_of_mem_take
def Bq:=@List.length_set
def Br:=@Nat.le_trans
def Bt:=@Nat.add_zero
def Bu:=@List.map_append
def Bv:=@Bool.and_eq_true
def Bx:=@List.take_length
def By:=@List.append_nil
def BC:=@Option.some.injEq
def BD:=@List.mem_of_mem_drop
def BH:=@List.set_append_right
def BI:=@Nat.add_mul
def BJ:=@if_true
def BP:=@List.mem_singleton
def BR:=@List.length_nil
def BT:=@List.nil_append
def BV:=@List.mem_append_right
def BW:=@Nat.zero_add
def BY:=@Option.map_some
def B0:=@List.set_eq_take_append_cons_drop
def B3:=@List.nodup_append
def B5:=@List.nodup_cons
def B7:=@ne_eq
def B9:=@List.size_toArray
def Cc:=@congrArg
def Cd:=@Nat.zero_lt_one
def Cg:=@Array.length_toList
def Ci:=@List.getElem?_take
def Cj:=@List.mem_filterMap
def Cn:=@List.getElem?_map
def Cq:=@Nat.min_eq_left
def Cr:=@List.getElem?_drop
def Cs:=@List.cons_append
def Ct:=@Option.bind_some
def Cx:=@Bool.false_eq_true
def CC:=@List.mem_of_getElem?
def CD:=@List.mem_append_left
def CF:=@eq_self
def CH:=@List.take_append_drop
def CM:=@List.take_append_of_le_length
def CO:=@decide_eq_true_eq
def CT:=@List.getElem?_of_mem
def CV:=@Array.getElem?_eq_getElem
def CZ:=@List.flatten_cons
def C0:=@List.getElem_map
def C3:=@List.getElem?_take_of_lt
def C4:=@List.map_nil
def C5:=@Nat.sub_self
def C7:=@List.eq_nil_of_length_eq_zero
def Db:=@List.all_eq_true
def Dc:=@Nat.succ_pos
def Dd:=@decide_eq_decide
def De:=@List.mem_or_eq_of_mem_set
def Dm:=@Nat.lt_irrefl
def Dq:=@List.take_sublist
def Dw:=@decide_true
def Dz:=@Ne.symm
def DF:=@if_false
def DG:=@decide_false
def DL:=@List.mem_filter
def DW:=@Nat.mul_le_mul_right
def DY:=@List.filter_append
def D4:=@Option.some.inj
def D6:=@Nat.one_mul
def D7:=@List.length_pos_iff
def Ec:=@List.getElem?_eq_none
def Ee:=@List.reverse_cons
def Em:=@List.drop_drop
def Et:=@List.map_set
def Eu:=@List.drop_length
def EK:=@List.findIdx?_eq_some_iff_findIdx_eq
def EO:=@List.filterMap_append
def E5:=@List.cons.injEq
def Fb:=@Nat.add_sub_cancel
def Fl:=@Nat.le_succ
def Fm:=@List.reverse_reverse
def FC:=@List.take_take
def FD:=@List.take_left
def FE:=@Decidable.not_not
def FI:=@Nat.mul_one
def F8:=@List.length_replicate
def Gf:=@Array.eq_empty_of_size_eq_zero
def Gg:=@Option.getD_some
def Gi:=@Nat.le_add_right
def Gq:=@List.map_take
def Gr:=@List.getElem_append_left
def GI:=@Int.le_refl
def GM:=@List.getElem?_cons_zero
def GN:=@of_decide_eq_true
def GQ:=@List.find?_cons
def Hg:=@Array.toList_append
def Hh:=@Int.toNat_of_nonneg
def Hs:=@Array.getD_eq_getD_getElem?
def Ht:=@Bool.false_or
def Hw:=@Nat.le_max_right
def Hy:=@List.filter_cons
def HM:=@Array.ext'
def H6:=@List.extract_eq_take_drop
def H7:=@Nat.le_max_left
def H8:=@List.take_left'
def Ik:=@bne_self_eq_false
def IA:=@Prod.mk.injEq
def II:=@List.reverse_append
def IJ:=@List.filterMap_cons
def I1:=@Nat.le_mul_of_pos_right
def I2:=@Bool.not_false
def I3:=@Int.eq_ofNat_of_zero_le
def Jp:=@List.drop_append_of_le_length
def Jv:=@Nat.lt_of_lt_of_le
def Jw:=@Nat.eq_zero_or_pos
def Jy:=@List.reverse_singleton
def Jz:=@List.find?_eq_none
def JA:=@Int.not_lt
def JL:=@List.drop_left'
def JQ:=@Bool.or_false
def JR:=@List.map_drop
def J4:=@List.singleton_append
def J5:=@List.set_getElem_self
def Kl:=@Array.size_append
def KN:=@List.take_zero
def KO:=@Array.replicate_succ
def KP:=@Array.replicate_zero
def KY:=@List.not_mem_nil
def K5:=@List.getLast?_eq_getElem?
def Lm:=@List.toList_toArray
def Ln:=@List.flatten_append
def Lo:=@List.replicate_succ
def Lp:=@List.append_toArray
def Lq:=@List.length_reverse
def Mb:=@List.set_cons_zero
def Mf:=@List.getElem?_cons_succ
def Mg:=@List.length_eq_zero_iff
def MZ:=@List.drop_zero
def M0:=@Nat.le_of_eq
def M1:=@Nat.zero_mul
def M2:=@List.flatMap_cons
def M3:=@and_true
def M4:=@List.nodup_nil
def M5:=@true_and
def M6:=@Option.map_eq_some_iff
def M7:=@List.push_toArray
def M8:=@Nat.le_of_lt
def Nx:=@Array.getElem?_modify
def Ny:=@Nat.eq_of_beq_eq_true
def NO:=@Array.toList_map
def NP:=@not_or
def NQ:=@Nat.lt_succ_self
def NV:=@List.any_cons
def Oz:=@Array.toList_extract
def Pj:=@Bool.or_eq_true
def Pk:=@Bool.eq_iff_iff
def Pu:=@List.take_set_of_le
def Pv:=@List.drop_take_self
def Pw:=@List.mem_map_of_mem
def PF:=@Nat.add_comm
def PG:=@Nat.ne_of_lt
def Qz:=@Array.ext_getElem?
def QA:=@Int.fdiv_eq_ediv_of_nonneg
def Rd:=@Option.filter_eq_some_iff
def Re:=@List.mem_of_find?_eq_some
def Rf:=@Decidable.byContradiction
def RH:=@List.ext_getElem?
def RI:=@List.find?_append
def Sv:=@Bool.not_true
def Sw:=@Nat.add_assoc
def Sx:=@Bool.bne_true
def TQ:=@decide_eq_false_iff_not
def TR:=@List.drop_append
def TS:=@List.reverse_nil
def TT:=@Option.bind_eq_some_iff
def TU:=@Nat.add_sub_cancel_left
def TV:=@List.any_eq_true
def TW:=@List.map_reverse
def UU:=@List.sublist_cons_self
def UW:=@Bool.true_or
def UX:=@List.any_nil
def VR:=@List.find?_some
def VS:=@List.any_append
def VT:=@UInt8.toNat_inj
def Ww:=@List.length_filter_le
def ZI:=@List.mem_cons_of_mem
def ZS:=@false_and
def aS:=@List.take_succ_cons
def aT:=@List.drop_set_of_lt
def aU:=@Array.getElem?_push
def aV:=@List.map_congr_left
def aW:=@List.filter_eq_self
def dZ:=@List.all_cons
def nA:=@Option.isSome_some
def sC:=@and_self
def sD:=@dif_pos
def sE:=@or_false
def sF:=@List.set_set
def sG:=@List.getLast?_nil
def sT:=@Array.getElem?_setIfInBounds_ne
def sU:=@List.takeWhile_append_dropWhile
def yF:=@List.zipIdx_cons
def yG:=@List.take_append
def yH:=@List.mem_flatMap
def yI:=@Nat.max_eq_right
def qe:=@List.foldl_cons
def rh:=@eq_comm
def Ý:=@beq_iff_eq
def Þ:=@Bool.and_false
def ß:=@Bool.bne_false
def à:=@Bool.false_and
def ì:=@List.getElem_append_right
def aA7:=@List.take_add
def aA8:=@List.eq_of_mem_replicate
def aA9:=@List.drop_nil
def aBa:=@List.take_nil
def aBb:=@Int.lt_irrefl
def aBc:=@Int.ofNat.inj
def aCx:=@and_false
def aCy:=@List.filter_cons_of_pos
def aFn:=@List.length_eq_one_iff
def aFo:=@Iff.rfl
def aFp:=@Bool.or_true
def aFq:=@or_self
def aFr:=@List.getElem_cons_zero
def aF5:=@List.contains_iff_mem
def aF6:=@Array.getElem?_toList
def aF7:=@List.dropLast_eq_take
def aF8:=@List.getElem_set_self
def aKs:=@List.getElem?_append
def aKt:=@List.range_eq_range'
def aKu:=@List.pairwise_append
def aKv:=@List.mem_of_getLast?
def aLl:=@Nat.add_sub_cancel'
def aLm:=@Array.toList_zipIdx
def aLn:=@List.getD_cons_zero
def aLo:=@List.getD_cons_succ
def aLp:=@List.takeWhile_cons
def aLq:=@List.dropWhile_cons
def aPj:=@List.zip_cons_cons
def aPk:=@Array.foldl_toList
def aPl:=@List.pairwise_cons
def aPm:=@Option.isSome_none
def aPn:=@List.findIdx?_cons
def aPo:=@Option.toList_some
def aPp:=@List.map_singleton
def aPq:=@List.set_cons_succ
def aQS:=@Bool.not_eq_true'
def aQT:=@List.getElem?_set
def aQU:=@List.pairwise_map
def aQW:=@List.any_eq_false
def aQX:=@List.drop_sublist
def aQY:=@List.getElem_take
abbrev aVc:List UInt8:=[97,116,116,114,105,98,117,116,101,78,97,109,101,32,97,116,116,114,105,98,117,116,101,84,121,112,101,32,98,97,115,101,70,114,101,113,117,101,110,99,121,32,98,97,115,101,80,114,111,102,105,108,101,32,99,97,108,99,77,111,100,101,32,99,108,105,112,80,97,116,104,85,110,105,116,115,32,100,105,102,102,117,115,101,67,111,110,115,116,97,110,116,32,101,100,103,101,77,111,100,101,32,102,105,108,116,101,114,85,110,105,116,115,32,103,108,121,112,104,82,101,102,32,103,114,97,100,105,101,110,116,84,114,97,110,115,102,111,114,109,32,103,114,97,100,105,101,110,116,85,110,105,116,115,32,107,101,114,110,101,108,77,97,116,114,105,120,32,107,101,114,110,101,108,85,110,105,116,76,101,110,103,116,104,32,107,101,121,80,111,105,110,116,115,32,107,101,121,83,112,108,105,110,101,115,32,107,101,121,84,105,109,101,115,32,108,101,110,103,116,104,65,100,106,117,115,116,32,108,105,109,105,116,105,110,103,67,111,110,101,65,110,103,108,101,32,109,97,114,107,101,114,72,101,105,103,104,116,32,109,97,114,107,101,114,85,110,105,116,115,32,109,97,114,107,101,114,87,105,100,116,104,32,109,97,115,107,67,111,110,116,101,110,116,85,110,105,116,115,32,109,97,115,107,85,110,105,116,115,32,110,117,109,79,99,116,97,118,101,115,32,112,97,116,104,76,101,110,103,116,104,32,112,97,116,116,101,114,110,67,111,110,116,101,110,116,85,110,105,116,115,32,112,97,116,116,101,114,110,84,114,97,110,115,102,111,114,109,32,112,97,116,116,101,114,110,85,110,105,116,115,32,112,111,105,110,116,115,65,116,88,32,112,111,105,110,116,115,65,116,89,32,112,111,105,110,116,115,65,116,90,32,112,114,101,115,101,114,118,101,65,108,112,104,97,32,112,114,101,115,101,114,118,101,65,115,112,101,99,116,82,97,116,105,111,32,112,114,105,109,105,116,105,118,101,85,110,105,116,115,32,114,101,102,88,32,114,101,102,89,32,114,101,112,101,97,116,67,111,117,110,116,32,114,101,112,101,97,116,68,117,114,32,114,101,113,117,105,114,101,100,69,120,116,101,110,115,105,111,110,115,32,114,101,113,117,105,114,101,100,70,101,97,116,117,114,101,115,32,115,112,101,99,117,108,97,114,67,111,110,115,116,97,110,116,32,115,112,101,99,117,108,97,114,69,120,112,111,110,101,110,116,32,115,112,114,101,97,100,77,101,116,104,111,100,32,115,116,97,114,116,79,102,102,115,101,116,32,115,116,100,68,101,118,105,97,116,105,111,110,32,115,116,105,116,99,104,84,105,108,101,115,32,115,117,114,102,97,99,101,83,99,97,108,101,32,115,121,115,116,101,109,76,97,110,103,117,97,103,101,32,116,97,98,108,101,86,97,108,117,101,115,32,116,97,114,103,101,116,88,32,116,97,114,103,101,116,89,32,116,101,120,116,76,101,110,103,116,104,32,118,105,101,119,66,111,120,32,118,105,101,119,84,97,114,103,101,116,32,120,67,104,97,110,110,101,108,83,101,108,101,99,116,111,114,32,121,67,104,97,110,110,101,108,83,101,108,101,99,116,111,114,32,122,111,111,109,65,110,100,80,97,110]
abbrev aVd:List UInt8:=[97,100,100,114,101,115,115,32,97,112,112,108,101,116,32,97,114,101,97,32,97,114,116,105,99,108,101,32,97,115,105,100,101,32,98,97,115,101,32,98,97,115,101,102,111,110,116,32,98,103,115,111,117,110,100,32,98,108,111,99,107,113,117,111,116,101,32,98,111,100,121,32,98,114,32,98,117,116,116,111,110,32,99,97,112,116,105,111,110,32,99,101,110,116,101,114,32,99,111,108,32,99,111,108,103,114,111,117,112,32,100,100,32,100,101,116,97,105,108,115,32,100,105,114,32,100,105,118,32,100,108,32,100,116,32,101,109,98,101,100,32,102,105,101,108,100,115,101,116,32,102,105,103,99,97,112,116,105,111,110,32,102,105,103,117,114,101,32,102,111,111,116,101,114,32,102,111,114,109,32,102,114,97,109,101,32,102,114,97,109,101,115,101,116,32,104,49,32,104,50,32,104,51,32,104,52,32,104,53,32,104,54,32,104,101,97,100,32,104,101,97,100,101,114,32,104,103,114,111,117,112,32,104,114,32,104,116,109,108,32,105,102,114,97,109,101,32,105,109,103,32,105,110,112,117,116,32,107,101,121,103,101,110,32,108,105,32,108,105,110,107,32,108,105,115,116,105,110,103,32,109,97,105,110,32,109,97,114,113,117,101,101,32,109,101,110,117,32,109,101,116,97,32,110,97,118,32,110,111,101,109,98,101,100,32,110,111,102,114,97,109,101,115,32,110,111,115,99,114,105,112,116,32,111,98,106,101,99,116,32,111,108,32,112,32,112,97,114,97,109,32,112,108,97,105,110,116,101,120,116,32,112,114,101,32,115,99,114,105,112,116,32,115,101,97,114,99,104,32,115,101,99,116,105,111,110,32,115,101,108,101,99,116,32,115,111,117,114,99,101,32,115,116,121,108,101,32,115,117,109,109,97,114,121,32,116,97,98,108,101,32,116,98,111,100,121,32,116,100,32,116,101,109,112,108,97,116,101,32,116,101,120,116,97,114,101,97,32,116,102,111,111,116,32,116,104,32,116,104,101,97,100,32,116,105,116,108,101,32,116,114,32,116,114,97,99,107,32,117,108,32,119,98,114,32,120,109,112]
abbrev aVe:List UInt8:=[97,108,116,71,108,121,112,104,32,97,108,116,71,108,121,112,104,68,101,102,32,97,108,116,71,108,121,112,104,73,116,101,109,32,97,110,105,109,97,116,101,67,111,108,111,114,32,97,110,105,109,97,116,101,77,111,116,105,111,110,32,97,110,105,109,97,116,101,84,114,97,110,115,102,111,114,109,32,99,108,105,112,80,97,116,104,32,102,101,66,108,101,110,100,32,102,101,67,111,108,111,114,77,97,116,114,105,120,32,102,101,67,111,109,112,111,110,101,110,116,84,114,97,110,115,102,101,114,32,102,101,67,111,109,112,111,115,105,116,101,32,102,101,67,111,110,118,111,108,118,101,77,97,116,114,105,120,32,102,101,68,105,102,102,117,115,101,76,105,103,104,116,105,110,103,32,102,101,68,105,115,112,108,97,99,101,109,101,110,116,77,97,112,32,102,101,68,105,115,116,97,110,116,76,105,103,104,116,32,102,101,68,114,111,112,83,104,97,100,111,119,32,102,101,70,108,111,111,100,32,102,101,70,117,110,99,65,32,102,101,70,117,110,99,66,32,102,101,70,117,110,99,71,32,102,101,70,117,110,99,82,32,102,101,71,97,117,115,115,105,97,110,66,108,117,114,32,102,101,73,109,97,103,101,32,102,101,77,101,114,103,101,32,102,101,77,101,114,103,101,78,111,100,101,32,102,101,77,111,114,112,104,111,108,111,103,121,32,102,101,79,102,102,115,101,116,32,102,101,80,111,105,110,116,76,105,103,104,116,32,102,101,83,112,101,99,117,108,97,114,76,105,103,104,116,105,110,103,32,102,101,83,112,111,116,76,105,103,104,116,32,102,101,84,105,108,101,32,102,101,84,117,114,98,117,108,101,110,99,101,32,102,111,114,101,105,103,110,79,98,106,101,99,116,32,103,108,121,112,104,82,101,102,32,108,105,110,101,97,114,71,114,97,100,105,101,110,116,32,114,97,100,105,97,108,71,114,97,100,105,101,110,116,32,116,101,120,116,80,97,116,104]
abbrev aVf:List UInt8:=[98,97,115,101,32,98,97,115,101,102,111,110,116,32,98,103,115,111,117,110,100,32,108,105,110,107,32,109,101,116,97,32,110,111,102,114,97,109,101,115,32,115,99,114,105,112,116,32,115,116,121,108,101,32,116,101,109,112,108,97,116,101,32,116,105,116,108,101]
abbrev aVg:List UInt8:=[116,101,109,112,108,97,116,101]
abbrev aVh:List UInt8:=[104,116,109,108]
abbrev aVi:List UInt8:=[97,100,100,114,101,115,115,32,97,114,116,105,99,108,101,32,97,115,105,100,101,32,98,108,111,99,107,113,117,111,116,101,32,99,101,110,116,101,114,32,100,101,116,97,105,108,115,32,100,105,97,108,111,103,32,100,105,114,32,100,105,118,32,100,108,32,102,105,101,108,100,115,101,116,32,102,105,103,99,97,112,116,105,111,110,32,102,105,103,117,114,101,32,102,111,111,116,101,114,32,104,101,97,100,101,114,32,104,103,114,111,117,112,32,109,97,105,110,32,109,101,110,117,32,110,97,118,32,111,108,32,112,32,115,101,97,114,99,104,32,115,101,99,116,105,111,110,32,115,117,109,109,97,114,121,32,117,108]
abbrev aVj:List UInt8:=[120,108,105,110,107,58,97,99,116,117,97,116,101,32,120,108,105,110,107,58,97,114,99,114,111,108,101,32,120,108,105,110,107,58,104,114,101,102,32,120,108,105,110,107,58,114,111,108,101,32,120,108,105,110,107,58,115,104,111,119,32,120,108,105,110,107,58,116,105,116,108,101,32,120,108,105,110,107,58,116,121,112,101]
abbrev aVk:List UInt8:=[104,101,97,100]
abbrev aVl:List UInt8:=[110,111,115,99,114,105,112,116]
abbrev aVm:List UInt8:=[99,97,112,116,105,111,110,32,99,111,108,32,99,111,108,103,114,111,117,112,32,102,114,97,109,101,32,104,101,97,100,32,116,98,111,100,121,32,116,100,32,116,102,111,111,116,32,116,104,32,116,104,101,97,100,32,116,114]
abbrev aVn:List UInt8:=[98,111,100,121]
abbrev aVo:List UInt8:=[98,97,115,101,102,111,110,116,32,98,103,115,111,117,110,100,32,108,105,110,107,32,109,101,116,97,32,110,111,102,114,97,109,101,115,32,115,116,121,108,101]
abbrev aVp:List UInt8:=[97,112,112,108,101,116,32,99,97,112,116,105,111,110,32,104,116,109,108,32,109,97,114,113,117,101,101,32,111,98,106,101,99,116,32,116,97,98,108,101,32,116,100,32,116,101,109,112,108,97,116,101,32,116,104]
abbrev aVq:List UInt8:=[100,100,32,100,116,32,108,105,32,111,112,116,103,114,111,117,112,32,111,112,116,105,111,110,32,112,32,114,98,32,114,112,32,114,116,32,114,116,99]
abbrev aVr:List UInt8:=[102,114,97,109,101,115,101,116]
abbrev aVs:List UInt8:=[116,105,116,108,101]
abbrev aVt:List UInt8:=[99,97,112,116,105,111,110,32,99,111,108,103,114,111,117,112,32,116,98,111,100,121,32,116,100,32,116,102,111,111,116,32,116,104,32,116,104,101,97,100,32,116,114]
abbrev aVu:List UInt8:=[98,97,115,101,32,98,97,115,101,102,111,110,116,32,98,103,115,111,117,110,100,32,108,105,110,107,32,109,101,116,97]
abbrev aVv:List UInt8:=[97,114,101,97,32,98,114,32,101,109,98,101,100,32,105,109,103,32,105,109,97,103,101,32,107,101,121,103,101,110,32,119,98,114,32,105,110,112,117,116,32,112,97,114,97,109,32,115,111,117,114,99,101,32,116,114,97,99,107,32,104,114]
abbrev aVw:List UInt8:=[97,110,110,111,116,97,116,105,111,110,45,120,109,108]
abbrev aVx:List UInt8:=[115,99,114,105,112,116]
abbrev aVy:List UInt8:=[116,97,98,108,101,32,116,98,111,100,121,32,116,102,111,111,116,32,116,104,101,97,100,32,116,114]
abbrev aVz:List UInt8:=[100,101,115,99,32,102,111,114,101,105,103,110,79,98,106,101,99,116,32,116,105,116,108,101]
abbrev aVA:List UInt8:=[98,32,98,105,103,32,99,111,100,101,32,101,109,32,102,111,110,116,32,105,32,115,32,115,109,97,108,108,32,115,116,114,105,107,101,32,115,116,114,111,110,103,32,116,116,32,117]
abbrev aVB:List UInt8:=[116,97,98,108,101]
abbrev aVC:List UInt8:=[104,101,97,100,32,98,111,100,121,32,104,116,109,108,32,98,114]
abbrev aVD:List UInt8:=[98,117,116,116,111,110]
abbrev aVE:List UInt8:=[111,112,116,103,114,111,117,112,32,111,112,116,105,111,110]
abbrev aVF:List UInt8:=[104,49,32,104,50,32,104,51,32,104,52,32,104,53,32,104,54]
abbrev aVG:List UInt8:=[116,101,120,116,97,114,101,97,32,120,109,112,32,105,102,114,97,109,101,32,110,111,101,109,98,101,100,32,112,108,97,105,110,116,101,120,116]
abbrev aVH:List UInt8:=[99,97,112,116,105,111,110]
abbrev aVI:List UInt8:=[97,112,112,108,105,99,97,116,105,111,110,47,120,104,116,109,108,43,120,109,108]
abbrev aVJ:List UInt8:=[97,112,112,108,101,116,32,109,97,114,113,117,101,101,32,111,98,106,101,99,116]
abbrev aVK:List UInt8:=[120,109,108,110,115,58,120,108,105,110,107]
abbrev aVL:List UInt8:=[110,111,102,114,97,109,101,115,32,115,116,121,108,101]
abbrev aVM:List UInt8:=[104,116,109,108,32,116,97,98,108,101,32,116,101,109,112,108,97,116,101]
abbrev aVN:List UInt8:=[102,111,114,101,105,103,110,79,98,106,101,99,116]
abbrev aVO:List UInt8:=[120,108,105,110,107,58,97,114,99,114,111,108,101]
abbrev aVP:List UInt8:=[104,101,97,100,32,110,111,115,99,114,105,112,116]
abbrev aVQ:List UInt8:=[111,112,116,103,114,111,117,112]
abbrev aVR:List UInt8:=[120,108,105,110,107,58,97,99,116,117,97,116,101]
abbrev aVS:List UInt8:=[109,105,32,109,110,32,109,111,32,109,115,32,109,116,101,120,116]
abbrev aVT:List UInt8:=[104,101,97,100,32,116,101,109,112,108,97,116,101,32,98,111,100,121,32,104,116,109,108,32,98,114]
abbrev aVU:List UInt8:=[99,111,108,103,114,111,117,112]
abbrev aVV:List UInt8:=[120,108,105,110,107,58,116,105,116,108,101]
abbrev aVW:List UInt8:=[111,112,116,105,111,110]
abbrev aVX:List UInt8:=[120,109,108,58,115,112,97,99,101]
abbrev aVY:List UInt8:=[116,102,111,111,116]
abbrev aVZ:List UInt8:=[120,109,108,110,115]
abbrev aV0:List UInt8:=[115,101,108,101,99,116]
abbrev aV1:List UInt8:=[116,98,111,100,121]
abbrev aV2:List UInt8:=[116,104,101,97,100]
abbrev aV3:List UInt8:=[120,108,105,110,107,58,104,114,101,102]
abbrev aV4:List UInt8:=[120,108,105,110,107,58,114,111,108,101]
abbrev aV5:List UInt8:=[120,108,105,110,107,58,115,104,111,119]
abbrev aV6:List UInt8:=[120,108,105,110,107,58,116,121,112,101]
abbrev aV7:List UInt8:=[100,101,102,105,110,105,116,105,111,110,117,114,108]
abbrev aV8:List UInt8:=[116,101,109,112,108,97,116,101,32,98,111,100,121,32,104,116,109,108,32,98,114]
abbrev aV9:List UInt8:=[120,109,108,58,108,97,110,103]
abbrev aWa:List UInt8:=[100,101,102,105,110,105,116,105,111,110,85,82,76]
abbrev aWb:List UInt8:=[98,111,100,121,32,104,116,109,108,32,98,114]
abbrev aWc:List UInt8:=[112,114,101,32,108,105,115,116,105,110,103]
abbrev aWd:List UInt8:=[109,97,114,113,117,101,101]
abbrev aWe:List UInt8:=[116,101,120,116,47,104,116,109,108]
abbrev aWf:List UInt8:=[112,108,97,105,110,116,101,120,116]
abbrev aWg:List UInt8:=[120,108,105,110,107]
abbrev aWh:List UInt8:=[97,112,112,108,101,116]
abbrev aWi:List UInt8:=[101,110,99,111,100,105,110,103]
abbrev aWj:List UInt8:=[110,111,102,114,97,109,101,115]
abbrev aWk:List UInt8:=[98,97,115,101,102,111,110,116]
abbrev aWl:List UInt8:=[111,98,106,101,99,116]
abbrev aWm:List UInt8:=[114,98,32,114,116,99,32,114,112,32,114,116]
abbrev aWn:List UInt8:=[102,111,114,109]
abbrev aWo:List UInt8:=[110,111,115,99,114,105,112,116,32,98,114]
abbrev aWp:List UInt8:=[98,103,115,111,117,110,100]
abbrev aWq:List UInt8:=[97,114,99,114,111,108,101]
abbrev aWr:List UInt8:=[97,99,116,117,97,116,101]
abbrev aWs:List UInt8:=[104,116,109,108,32,98,111,100,121]
abbrev aWt:List UInt8:=[116,121,112,101]
abbrev aWu:List UInt8:=[100,101,115,99]
abbrev aWv:List UInt8:=[110,111,98,114]
abbrev aWw:List UInt8:=[115,116,121,108,101]
abbrev aWx:List UInt8:=[109,97,116,104,32,115,118,103]
abbrev aWy:List UInt8:=[108,105,32,100,100,32,100,116]
abbrev aWz:List UInt8:=[116,101,120,116,97,114,101,97]
abbrev aWA:List UInt8:=[111,108,32,117,108]
abbrev aWB:List UInt8:=[115,112,97,99,101]
abbrev aWC:List UInt8:=[104,114,101,102]
abbrev aWD:List UInt8:=[114,111,108,101]
abbrev aWE:List UInt8:=[115,104,111,119]
abbrev aWF:List UInt8:=[108,105,110,107]
theorem Ac{p:Prop}(h:p:=by omega):p:=h
theorem AH{p:Prop}(h:p:=by simp):p:=h
theorem AP{p:Prop}(h:p:=by decide):p:=h
theorem CA{p:Prop}(h:p:=by decide +kernel):p:=h
theorem Dv{p:Prop}(h:p:=by simp only; omega):p:=h
theorem Ei{p:Prop}(h:p:=by simp; omega):p:=h
theorem I8{p:Prop}(h:p:=by simp[Go.Op.operands]):p:=h
theorem RT{p:Prop}(h:p:=by simp[Go.Value.cells,Go.Value.oneCell']):p:=h
section
section
namespace Go.Am
abbrev Aj:=List UInt8
inductive Aa where
 |bool (b:Bool)
 |int (k:IntKind) (n:Int)
 |str (s:Aj)
 |ptr (p:Option (Nat×Nat))
 |CI (cells:List Aa)
 |sl (size:Nat) (AE:List (List Aa))
 |slnil
 |Gl (size:Nat)
 |CE (id off len size:Nat)
 |map (m:Option Nat)
 |func (fn:Fn) (first captured:List Aa)
 |nilFunc
 |iface (t:TypeId) (v:Aa)
 |nilIface
 |agg (cells:List Aa)
 |tuple (vs:List Aa)
 deriving Inhabited
mutual
def Aa.beq:Aa->Aa->Bool
 | .bool a,.bool b=>a==b
 | .int k a,.int l b=>k==l&&a==b
 | .str a,.str b=>a==b
 | .ptr a,.ptr b=>a==b
 | .CI a,.CI b=>Aa.SD a b
 | .sl n a,.sl m b=>n==m&&Aa.SE a b
 | .slnil,.slnil=>true
 | .Gl a,.Gl b=>a==b
 | .CE a b c d,.CE a' b' c' e=>a==a'&&b==b'&&c==c'&&d==e
 | .map a,.map b=>a==b
 | .func f a b,.func f' a' b'=>f==f'&&Aa.SD a a'&&Aa.SD b b'
 | .nilFunc,.nilFunc=>true
 | .iface t a,.iface t' a'=>t==t'&&Aa.beq a a'
 | .nilIface,.nilIface=>true
 | .agg a,.agg b=>Aa.SD a b
 | .tuple a,.tuple b=>Aa.SD a b
 |_,_=>false
def Aa.SD:List Aa->List Aa->Bool
 |[],[]=>true
 |a::x,b::y=>Aa.beq a b&&Aa.SD x y
 |_,_=>false
def Aa.SE:List (List Aa)->List (List Aa)->Bool
 |[],[]=>true
 |a::x,b::y=>Aa.SD a b&&Aa.SE x y
 |_,_=>false
end
def Aa.cells:Aa->List Aa
 | .agg cs=>cs
 | .tuple _=>[]
 |v=>[v]
inductive Dx where
 |cells (cs:List Aa)
 |map (es:List (Aa×Aa))
 |CR
 deriving Inhabited
abbrev Ai:=List Dx
inductive nH where
 |copy (size:Nat)
 |clear (size:Nat) (zero:List Aa)
 |jf (size:Nat) (lo hi:Bool)
 |sV (size:Nat)
 |aF9 (t:TypeId)
 |rj (zero:Aa) (ok:Bool)
 |T0 (zero:Aa)
 |eB (zero:Aa)
 |OE
 |í
 |rl
 |RJ (g:Ai->List Aa->Option (Ai×Aa))
def nH.aGa:nH->Bool
 | .sV _| .clear _ _| .OE| .í=>true
 |_=>false
inductive Ew where
 |undef
 |skip
 |val (v:Aa)
 |Px (b:Bool)
 |Bs (v:Aa)
 |box (ver:Nat) (cells:List Aa) (Bs:List Nat)
 |Fo (s off:Nat)
 deriving Inhabited
abbrev BU:=List Ew
def BU.at(U:BU)(s:Nat):Ew:=U.getD s .undef
def Ew.Hz:Ew->Option Aa
 | .val v| .Bs v=>some v
 | .Px b=>some (.bool b)
 |_=>none
inductive FK where
 |b|i|s
 deriving DecidableEq,Inhabited
inductive NK where
 |sl|fn|mp
 deriving DecidableEq,Inhabited
inductive SF where
 |int (op:BinOp)
 |str (op:BinOp)
 |beq (neg:Bool)
 |geq (neg:Bool) (ks:List FK)
 |peq (neg:Bool)
 |Gu (neg:Bool) (k:NK)
 |un (op:UnOp)
 |conv(k:IntKind)
 |pick
 |part (off:Nat) (n:Option Nat)
 |aCA (len size:Nat) (n:Option Nat)
 |ZT
 |LC (off:Nat)
 |Ff (size:Nat)
 |UY (len size:Nat)
 |len (isStr:Bool)
 |append (size bytes:Nat)
 |K6 (size:Nat) (isStr lo hi:Bool)
 |ext (i:Nat)
 |JS
 |Dk (size:Nat)
 |Gl (size:Nat)
 |Ch (zero:List Aa) (places:List (Nat×Nat))
 |LY (isMax:Bool)
 |Xr
 |s2b
 |i2s
 deriving Inhabited
def PJ:Value->Option Aa
 | .bool b=>some (.bool b)
 | .int k n=>some (.int k n)
 | .string s=>some (.str s.data.toList)
 | .pointer none=>some (.ptr none)
 | .slice none 0 0=>some .slnil
 | .map none=>some (.map none)
 | .func fn f c=>if f.size=0/\c.size=0 then some (.func fn [] []) else none
 | .nilFunc=>some .nilFunc
 | .nilIface=>some .nilIface
 |_=>none
def Mr:List Value->Option (List Aa)
 |[]=>some []
 |v::vs=>match PJ v,Mr vs with
  |some a,some as=>some (a::as)
  |_,_=>none
def Lr:Value->Option Aa
 | .agg cs=>(Mr cs.toList).map .agg
 |v=>PJ v
def QB:Sem Value->Option Value
 | .pure v=>some v
 |_=>none
def AW:Nat:=140737488355328
def yJ(op:BinOp)(k:IntKind)(a:Int)(l:IntKind)(b:Int):Option Aa:=
 (QB (binOp op 0 (.int k a) (.int l b))).bind λv=>match v with
  | .int k n=>some (.int k n)
  | .bool b=>some (.bool b)
  |_=>none
def nI(op:BinOp)(a b:Aj):Option Aa:=
 match op with
 | .add=>if a.length+b.length<=9223372036854775807 then some (.str (a++b)) else none
 | .eql=>some (.bool (a==b))
 | .neq=>some (.bool (!(a==b)))
 | .lss=>some (.bool (Op.bytesLess a b))
 | .leq=>some (.bool (Op.bytesLess a b||a==b))
 | .gtr=>some (.bool (!(Op.bytesLess a b||a==b)))
 | .geq=>some (.bool (!(Op.bytesLess a b)))
 |_=>none
def LZ:FK->Aa->Aa->Option Bool
 | .b,.bool a,.bool b=>some (a==b)
 | .i,.int k a,.int l b=>if k=l then some (a==b) else none
 | .s,.str a,.str b=>some (a==b)
 |_,_,_=>none
def D8:List FK->List Aa->List Aa->Option Bool
 |[],[],[]=>some true
 |k::ks,a::x,b::y=>match LZ k a b,D8 ks x y with
  |some e,some es=>some (e&&es)
  |_,_=>none
 |_,_,_=>none
def yK:Aa->Aa->Option Bool
 | .ptr none,.ptr b=>some b.isNone
 | .ptr (some _),.ptr none=>some false
 | .ptr (some a),.ptr (some b)=>if a=b then some true else none
 | .ptr none,.CI _=>some false
 | .CI _,.ptr none=>some false
 |_,_=>none
def yL:NK->Aa->Aa->Option Bool
 | .sl,.slnil,.slnil=>some true
 | .sl,.slnil,.sl _ _=>some false
 | .sl,.sl _ _,.slnil=>some false
 | .sl,.slnil,.Gl _=>some false
 | .sl,.Gl _,.slnil=>some false
 | .sl,.slnil,.CE _ _ _ _=>some false
 | .sl,.CE _ _ _ _,.slnil=>some false
 | .fn,.nilFunc,.nilFunc=>some true
 | .fn,.nilFunc,.func _ _ _=>some false
 | .fn,.func _ _ _,.nilFunc=>some false
 | .mp,.map none,.map b=>some b.isNone
 | .mp,.map (some _),.map none=>some false
 |_,_,_=>none
def Fu(cs:List Aa)(off:Nat):Option Nat->Option Aa
 |none=>cs[off]?
 |some n=>if off+n<=cs.length then some (.agg ((cs.drop off).take n)) else none
def Mx(n:Int)(len:Nat):Option Nat:=if 0<=n/\n<len then some n.toNat else none
def Fq(n:Int)(top:Nat):Option Nat:=if 0<=n/\n<=top then some n.toNat else none
def Ed(lo hi:Bool)(len:Nat)(as:List Aa):Option (Nat×Nat):=
 match lo,hi with
 |false,false=>match as with
  |[]=>some (0,len)
  |_=>none
 |false,true=>match as with
  |[.int _ h]=>(Fq h len).map λh=>(0,h)
  |_=>none
 |true,false=>match as with
  |[.int _ l]=>(Fq l len).map λl=>(l,len)
  |_=>none
 |true,true=>match as with
  |[.int _ l,.int _ h]=>(Fq h len).bind λh=>(Fq l h).map λl=>(l,h)
  |_=>none
def Nd:List (List Aa)->Option Aj
 |[]=>some []
 |[.int .u8 n]::rs=>(Nd rs).map λl=>n.toNat.toUInt8::l
 |_=>none
def Ce(s:Aj):List (List Aa):=s.map λb=>[.int .u8 b.toNat]
def DM(size bytes:Nat)(s:Aa)(AE:List (List Aa)):Option Aa:=
 match AE with
 |[]=>match s with
  | .slnil=>some .slnil
  | .Gl z=>if z=size then some (.Gl z) else none
  | .sl z r=>if z=size then some (.sl z r) else none
  |_=>none
 |AE=>match s with
  | .slnil=>if AE.length*bytes<=AW then some (.sl size AE) else none
  | .Gl z=>if z=size/\AE.length*bytes<=AW then some (.sl size AE) else none
  | .sl z r=>if z=size/\(r.length+AE.length)*bytes<=AW then some (.sl size (r++AE)) else none
  |_=>none
def AT(cs:List Aa):List ((Nat×Nat)×Aa)->Option (List Aa)
 |[]=>some cs
 |((off,size),v)::rest=>if 0<size/\v.cells.length=size/\off+size<=cs.length then AT (cs.take off++v.cells++cs.drop (off+size)) rest else none
def aBd(k:IntKind)(n:Int):Option Aa:=
 (QB (Op.unary .xor (.int k n))).bind λv=>match v with
  | .int k n=>some (.int k n)
  |_=>none
def aCB:UnOp->Aa->Option Aa
 | .not,.bool b=>some (.bool (!b))
 | .neg,.int k n=>some (.int k (k.wrap (0 -n)))
 | .xor,.int k n=>aBd k n
 |_,_=>none
def Xs(p:Aa)(off:Nat):Option Aa:=
 match p with
 | .CI cs=>some (.CI (cs.drop off))
 | .ptr (some (id,o))=>some (.ptr (some (id,o+off)))
 |_=>none
def elemOf(size:Nat)(s:Aa)(i:Int):Option Aa:=
 match s with
 | .sl z AE=>if z=size then(if 0<=i then(AE[i.toNat]?).map .CI else none) else none
 | .CE id off len z=>if z=size then(Mx i len).map λi=> .ptr (some (id,off+i*size)) else none
 |_=>none
def lenOf(isStr:Bool)(s:Aa):Option Aa:=
 match s with
 | .sl _ AE=>if isStr then none else some (.int .i64 AE.length)
 | .CE _ _ n _=>if isStr then none else some (.int .i64 n)
 | .slnil=>if isStr then none else some (.int .i64 0)
 | .Gl _=>if isStr then none else some (.int .i64 0)
 | .str s=>if isStr then some (.int .i64 s.length) else none
 |_=>none
def H9(size bytes:Nat)(s x:Aa):Option Aa:=
 match x with
 | .slnil=>DM size bytes s []
 | .Gl z=>if z=size then DM size bytes s [] else none
 | .sl z AE=>if z=size then DM size bytes s AE else none
 | .str x=>if size=1 then DM size bytes s (Ce x) else none
 |_=>none
def Kp(size:Nat)(isStr lo hi:Bool)(s:Aa)(as:List Aa):Option Aa:=
 match s with
 | .str s=>if isStr then(Ed lo hi s.length as).map λ(l,h)=> .str ((s.take h).drop l) else none
 | .sl z AE=>if isStr=false/\z=size then(Ed lo hi AE.length as).map λ(l,h)=> .sl z ((AE.take h).drop l) else none
 | .CE id off n z=>if isStr=false/\z=size then(Ed lo hi n as).bind λ(l,h)=>if l<n then some (.CE id (off+l*z) (h-l) z) else some (.sl z []) else none
 | .slnil=>if isStr then none else(Ed lo hi 0 as).map λ_=> .slnil
 |_=>none
def nJ:Aa->Option Aa
 | .ptr (some p)=>some (.ptr (some p))
 | .CI cs=>some (.CI cs)
 | .func (.func f) a b=>some (.func (.func f) a b)
 |_=>none
def Xt:Aa->Option Aa
 | .sl 1 AE=>(Nd AE).map .str
 | .slnil=>some (.str [])
 |_=>none
def AD(p:SF)(args:List Aa):Option Aa:=
 match p with
 | .int op=>match args with
  |[.int k a,.int l b]=>yJ op k a l b
  |_=>none
 | .str op=>match args with
  |[.str a,.str b]=>nI op a b
  |_=>none
 | .beq neg=>match args with
  |[.bool a,.bool b]=>some (.bool ((a==b) != neg))
  |_=>none
 | .geq neg ks=>match args with
  |[.agg a,.agg b]=>(D8 ks a b).map λe=> .bool (e != neg)
  |_=>none
 | .peq neg=>match args with
  |[a,b]=>(yK a b).map λe=> .bool (e != neg)
  |_=>none
 | .Gu neg k=>match args with
  |[a,b]=>(yL k a b).map λe=> .bool (e != neg)
  |_=>none
 | .un op=>match args with
  |[v]=>aCB op v
  |_=>none
 | .conv k=>match args with
  |[.int _ n]=>some (.int k (k.wrap n))
  |_=>none
 | .i2s=>match args with
  |[.int _ n]=>some (.str (Utf8.encode n).data.toList)
  |_=>none
 | .pick=>match args with
  |[.bool c,a,b]=>some (if c then a else b)
  |_=>none
 | .part off n=>match args with
  |[.agg cs]=>Fu cs off n
  |_=>none
 | .aCA len size n=>match args with
  |[.agg cs,.int _ i]=>(Mx i len).bind λi=>Fu cs (i*size) n
  |_=>none
 | .ZT=>match args with
  |[.str s,.int _ i]=>if 0<=i then(s[i.toNat]?).map λb=> .int .u8 b.toNat else none
  |_=>none
 | .LC off=>match args with
  |[p]=>Xs p off
  |_=>none
 | .Ff size=>match args with
  |[s,.int _ i]=>elemOf size s i
  |_=>none
 | .UY len size=>match args with
  |[p,.int _ i]=>(Mx i len).bind λi=>Xs p (i*size)
  |_=>none
 | .len isStr=>match args with
  |[s]=>lenOf isStr s
  |_=>none
 | .append size bytes=>match args with
  |[s,x]=>H9 size bytes s x
  |_=>none
 | .K6 size isStr lo hi=>match args with
  |s::as=>Kp size isStr lo hi s as
  |_=>none
 | .ext i=>match args with
  |[.tuple vs]=>vs[i]?
  |_=>none
 | .JS=>match args with
  |[v]=>nJ v
  |_=>none
 | .Dk size=>if args.all (λa=>a.cells.length==size)&&decide (args.length*size<=16777216) then some (.sl size (args.map (·.cells))) else none
 | .Gl size=>if args.isEmpty then some (.Gl size) else none
 | .Ch zero places=>if places.length=args.length then(AT zero (places.zip args)).map .agg else none
 | .LY isMax=>match args with
  |[.int k a,.int l b]=>if k=l then some (.int k (if isMax then(if b>a then b else a) else(if b<a then b else a))) else none
  |_=>none
 | .Xr=>match args with
  |[v]=>Xt v
  |_=>none
 | .s2b=>match args with
  |[.str s]=>if s.length<=AW then some (.sl 1 (Ce s)) else none
  |_=>none
inductive DU where
 |normal
 |exit (id:Nat)
 |ret
 deriving DecidableEq,Inhabited
inductive IT where
 |ret (x:DU) (vs:List Aa)
 |fail
 |op (o:SF) (args:List Aa) (k:Aa->IT)
 |cells (n:Nat) (v:Aa) (k:List Aa->IT)
 |Gm (c:Aa) (t e:IT)
 |load (n:Option Nat) (p:Aa) (k:Aa->IT)
 |store (n:Nat) (p v:Aa) (k:IT)
 |alloc (n:Nat) (v:Aa) (k:Aa->IT)
 |call (f:FuncId) (args:List Aa) (k:Aa->IT)
 |Ji (fn:Aa) (args:List Aa) (k:Aa->IT)
 |B6 (f:FuncId) (args:List Aa) (k:Aa->IT)
 |loop (key:Nat) (init:List Aa) (body:List Aa->IT) (k:DU->List Aa->IT)
 |OF (key:Nat) (t:IT) (k:DU->List Aa->IT)
 |same (a b:Aa) (k:IT)
 |PK (k:Aa->IT)
 |KS (m key v:Aa) (k:IT)
 |My (zero:Aa) (ok:Bool) (m key:Aa) (k:Aa->IT)
 |make (size bytes:Nat) (zero:List Aa) (len cap:Aa) (k:Aa->IT)
 |LD (size bytes:Nat) (s x:Aa) (k:Aa->IT)
 |Fg (s:Aa) (k:Aa->IT)
 |PH (v:Aa) (k:Aa->IT)
 |PL (off:Nat) (p:Aa) (k:IT)
 |JT (size bytes:Nat) (s x:Aa) (k:Aa->IT)
 |GJ (size bytes:Nat) (s x:Aa) (k:Aa->IT)
 |mem (o:nH) (args:List Aa) (k:Aa->IT)
 |yM (f:FuncId) (args:List Aa) (k:Aa->IT)
 deriving Inhabited
def Aa.M9:Aa->Bool
 | .bool _| .int _ _| .str _=>true
 |_=>false
def A7(h:Ai)(n:Option Nat):Aa->Option Aa
 | .CI cs=>Fu cs 0 n
 | .ptr (some (id,off))=>match h[id]? with
  |some (.cells cs)=>Fu cs off n
  |_=>none
 |_=>none
def Cv(h:Ai)(n:Nat)(p v:Aa):Option Ai:=
 match p with
 | .ptr (some (id,off))=>match h[id]? with
  |some (.cells cs)=>if v.cells.length=n/\off+n<=cs.length then some (h.set id (.cells (cs.take off++v.cells++cs.drop (off+n)))) else none
  |_=>none
 |_=>none
def Xu(h:Ai)(n:Nat)(v:Aa):Option (Ai×Aa):=
 if v.cells.length=n then some (h++[.cells v.cells],.ptr (some (h.length,0))) else none
def SG(s:Aj):List (Aa×Aa)->Option (Option Aa)
 |[]=>some none
 |(.str t,v)::es=>if s=t then some (some v) else SG s es
 |_=>none
def NW(s:Aj)(v:Aa):List (Aa×Aa)->Option (List (Aa×Aa))
 |[]=>some [(.str s,v)]
 |(.str t,v')::es=>if s=t then some ((.str s,v)::es) else(NW s v es).map λes=>(.str t,v')::es
 |_=>none
def Rg(h:Ai)(m k v:Aa):Option Ai:=
 match m,k with
 | .map (some id),.str s=>match h[id]? with
  |some (.map es)=>(NW s v es).map λes=>h.set id (.map es)
  |_=>none
 |_,_=>none
def T1(h:Ai)(m k:Aa):Option (Option Aa):=
 match m,k with
 | .map none,.str _=>some none
 | .map (some id),.str s=>match h[id]? with
  |some (.map es)=>SG s es
  |_=>none
 |_,_=>none
def PM(h:Ai)(zero:Aa)(ok:Bool)(m k:Aa):Option Aa:=
 (T1 h m k).map λr=>match r with
  |some v=>if ok then .tuple [v,.bool true] else v
  |none=>if ok then .tuple [zero,.bool false] else zero
def SH(h:Ai)(size bytes:Nat)(zero:List Aa):Aa->Aa->Option (Ai×Aa)
 | .int .i64 n,.int .i64 c=>if 0<=n/\n<=c/\c.toNat*bytes<=AW/\zero.length=size then
  some (h++[.cells (List.replicate c.toNat zero).flatten],.CE h.length 0 n.toNat size) else none
 |_,_=>none
def PO(size:Nat):Aa->Bool
 | .slnil=>true
 | .Gl z=>z==size
 | .sl z []=>z==size
 |_=>false
def K8(h:Ai)(size bytes:Nat)(s:Aa):Aa->Option (Ai×Aa)
 | .sl z AE=>if PO size s then(match AE with
   |[]=>some (h,s)
   |AE=>if z=size/\AE.length*bytes<=AW then some (h++[.cells AE.flatten],.CE h.length 0 AE.length size) else none)
  else none
 | .slnil=>if PO size s then some (h,s) else none
 | .Gl z=>if PO size s&&z==size then some (h,s) else none
 |_=>none
def I4(h:Ai):Aa->Option (Ai×Aa)
 | .str s=>if s.length<=AW then some (h++[.cells (s.map λb=> .int .u8 b.toNat)],.CE h.length 0 s.length 1) else none
 |_=>none
def Cz(cs:List Aa)(z:Nat):Nat->Nat->List (List Aa)
 |_,0=>[]
 |off,n+1=>(cs.drop off).take z::Cz cs z (off+z) n
def KT(h:Ai):Aa->Option (Ai×Aa)
 | .CE id off n z=>match h[id]? with
  |some (.cells cs)=>if off+n*z<=cs.length then some (h.set id .CR,.sl z (Cz cs z off n)) else none
  |_=>none
 |v=>some (h,v)
def Mz(h:Ai)(off:Nat)(p:Aa):Option Ai:=
 match p with
 | .ptr none=>some h
 | .ptr (some (id,o))=>match h[id]? with
  |some (.cells cs)=>match cs[o+off]? with
   |some v=>(KT h v).bind λ(h',v')=>match h'[id]? with
    |some (.cells Hi)=>some (h'.set id (.cells (Hi.set (o+off) v')))
    |_=>none
   |none=>none
  |_=>none
 |_=>none
def Hj(h:Ai)(size:Nat):Aa->Option (List (List Aa))
 | .slnil=>some []
 | .Gl z=>if z=size then some [] else none
 | .sl z AE=>if z=size then some AE else none
 | .str s=>if size=1 then some (Ce s) else none
 | .CE id off n z=>if z=size then match h[id]? with
   |some (.cells cs)=>if off+n*z<=cs.length then some (Cz cs z off n) else none
   |_=>none
  else none
 |_=>none
def Gj(h:Ai)(size bytes:Nat)(s x:Aa):Option (Ai×Aa):=
 match Hj h size x with
 |none=>none
 |some []=>match s with
  | .slnil=>some (h,s)
  | .Gl z=>if z=size then some (h,s) else none
  | .CE _ _ _ z=>if z=size then some (h,s) else none
  |_=>none
 |some AE=>match s with
  | .slnil=>if AE.length*bytes<=AW then some (h++[.cells AE.flatten],.CE h.length 0 AE.length size) else none
  | .Gl z=>if z=size/\AE.length*bytes<=AW then some (h++[.cells AE.flatten],.CE h.length 0 AE.length size) else none
  | .CE id off n z=>match h[id]? with
   |some (.cells cs)=>if z=size then
     (if off+(n+AE.length)*z<=cs.length then some (h.set id (.cells (cs.take (off+n*z)++AE.flatten++cs.drop (off+(n+AE.length)*z))),.CE id off (n+AE.length) z)
     else if off=0/\n*z<=cs.length/\(n+AE.length)*bytes<=AW then some (h.set id .CR++[.cells (cs.take (n*z)++AE.flatten)],.CE h.length 0 (n+AE.length) z) else none)
    else none
   |_=>none
  |_=>none
def Rh(h:Ai)(size bytes:Nat)(s x:Aa):Option Aa:=(Hj h size x).bind (DM size bytes s)
def yN(h:Ai)(size:Nat)(d x:Aa):Option (Ai×Aa):=
 match Hj h size x with
 |none=>none
 |some AE=>match d with
  | .slnil=>if AE.length=0 then some (h,.int .i64 0) else none
  | .CE id off n z=>match h[id]? with
   |some (.cells cs)=>if z=size/\AE.length<=n/\off+n*z<=cs.length then some (h.set id (.cells (cs.take off++AE.flatten++cs.drop (off+AE.length*z))),.int .i64 AE.length) else none
   |_=>none
  |_=>none
def Xv(h:Ai)(size:Nat)(zero:List Aa):Aa->Option (Ai×Aa)
 | .slnil=>some (h,.bool true)
 | .CE id off n z=>match h[id]? with
  |some (.cells cs)=>if z=size/\zero.length=size/\off+n*z<=cs.length then some (h.set id (.cells (cs.take off++(List.replicate n zero).flatten++cs.drop (off+n*z))),.bool true) else none
  |_=>none
 |_=>none
def nK(h:Ai)(size:Nat)(lo hi:Bool)(s:Aa)(as:List Aa):Option (Ai×Aa):=
 match s with
 | .CE id off n z=>match h[id]? with
  |some (.cells cs)=>if z=size/\hi=true/\off<=cs.length then(Ed lo hi ((cs.length-off)/z) as).bind λ(l,r)=>if l<(cs.length-off)/z then some (h,.CE id (off+l*z) (r-l) z) else none else none
  |_=>none
 |_=>none
def Xw(size:Nat):List Aa->Bool
 |[s,.int _ l,.int _ r,.int _ m]=>match s with
  | .CE _ _ n z=>z=size&&decide (0<=l)&&decide (l<=r)&&decide (r<=m)&&decide (m<=n)
  | .sl z AE=>z=size&&decide (0<=l)&&decide (l<=r)&&decide (r<=m)&&decide (m<=AE.length)
  |_=>false
 |_=>false
def L0(k:Int):List (Aa×Aa)->Nat->Option (Option (Nat×Aa))
 |[],_=>some none
 |(.int .i64 t,v)::es,i=>if k=t then some (some (i,v)) else L0 k es (i+1)
 |_,_=>none
def sW(zero:Aa)(ok:Bool):Option (Nat×Aa)->Aa
 |some (_,v)=>if ok then .tuple [v,.bool true] else v
 |none=>if ok then .tuple [zero,.bool false] else zero
def yO(h:Ai)(zero:Aa)(ok:Bool)(m k:Aa):Option (Ai×Aa):=
 match m,k with
 | .map none,.int .i64 _=>some (h,sW zero ok none)
 | .map (some id),.int .i64 n=>match h[id]? with
  |some (.map es)=>(L0 n es 0).map λr=>(h,sW zero ok r)
  |_=>none
 |_,_=>none
def Wx(h:Ai)(zero m k:Aa):Option (Ai×Aa):=
 match m,k with
 | .map (some id),.int .i64 n=>match h[id]? with
  |some (.map es)=>(L0 n es 0).map λr=>match r with
   |some (i,v)=>(h,.tuple [v,.int .i64 i])
   |none=>(h.set id (.map (es++[(k,zero)])),.tuple [zero,.int .i64 es.length])
  |_=>none
 |_,_=>none
def RK(k:Aj):List (Aa×Aa)->Nat->Option (Option (Nat×Aa))
 |[],_=>some none
 |(.str t,v)::es,i=>if k=t then some (some (i,v)) else RK k es (i+1)
 |_,_=>none
def Wy(h:Ai)(zero m k:Aa):Option (Ai×Aa):=
 match m,k with
 | .map (some id),.str n=>match h[id]? with
  |some (.map es)=>(RK n es 0).map λr=>match r with
   |some (i,v)=>(h,.tuple [v,.int .i64 i])
   |none=>(h.set id (.map (es++[(k,zero)])),.tuple [zero,.int .i64 es.length])
  |_=>none
 |_,_=>none
def SI(h:Ai)(m i v:Aa):Option (Ai×Aa):=
 match m,i with
 | .map (some id),.int .i64 n=>match h[id]? with
  |some (.map es)=>if 0<=n then match es[n.toNat]? with
   |some (k,_)=>some (h.set id (.map (es.set n.toNat (k,v))),.bool true)
   |none=>none
   else none
  |_=>none
 |_,_=>none
def rp(h:Ai)(m k v:Aa):Option (Ai×Aa):=
 match m,k with
 | .map (some id),.int .i64 n=>match h[id]? with
  |some (.map es)=>match L0 n es 0 with
   |some none=>some (h.set id (.map (es++[(.int .i64 n,v)])),.bool true)
   |_=>none
  |_=>none
 |_,_=>none
def QC(h:Ai):List Aa->Option (Ai×Aa)
 |[.slnil,.int .i64 i,.sl 1 [[.int .i64 x]]]=>if i=0 then some (h++[.cells [.int .i64 x]],.CE h.length 0 1 1) else none
 |[.CE id 0 n 1,.int .i64 i,.sl 1 [[.int .i64 x]]]=>match h[id]? with
  |some (.cells cs)=>if 0<=i/\i.toNat<=n/\n<=cs.length/\(n+1)*8<=AW then some (h.set id .CR++[.cells (cs.take i.toNat++[.int .i64 x]++(cs.take n).drop i.toNat)],.CE h.length 0 (n+1) 1) else none
  |_=>none
 |_=>none
def Ep(o:nH)(h:Ai)(args:List Aa):Option (Ai×Aa):=
 match o with
 | .copy size=>match args with
  |[d,x]=>yN h size d x
  |_=>none
 | .clear size zero=>match args with
  |[s]=>Xv h size zero s
  |_=>none
 | .jf size lo hi=>match args with
  |s::as=>nK h size lo hi s as
  |_=>none
 | .sV size=>if Xw size args then some (h,.bool true) else none
 | .aF9 t=>match args with
  |[v]=>some (h,.iface t v)
  |_=>none
 | .rj zero ok=>match args with
  |[m,k]=>yO h zero ok m k
  |_=>none
 | .T0 zero=>match args with
  |[m,k]=>Wx h zero m k
  |_=>none
 | .eB zero=>match args with
  |[m,k]=>Wy h zero m k
  |_=>none
 | .OE=>match args with
  |[m,i,v]=>SI h m i v
  |_=>none
 | .í=>match args with
  |[m,k,v]=>rp h m k v
  |_=>none
 | .rl=>QC h args
 | .RJ g=>g h args
def EH(f:FuncId):FuncId:=if f<=99999 then f else f%100000
def Dh:Aa->List Aa->Option (FuncId×List Aa)
 | .func (.func f) first captured,args=>if f<=99999 then some (f,first++args++captured) else none
 |_,_=>none
abbrev Km:=DU×List Aa×Ai
def IT.step(fn:FuncId->List Aa->IT)(rec:IT->Ai->Option Km):IT->Ai->Option Km
 | .ret x vs,h=>some (x,vs,h)
 | .fail,_=>none
 | .op o args k,h=>match AD o args with
  |some v=>IT.step fn rec (k v) h
  |none=>none
 | .cells n v k,h=>if v.cells.length=n then IT.step fn rec (k v.cells) h else none
 | .Gm c t e,h=>match c with
  | .bool true=>IT.step fn rec t h
  | .bool false=>IT.step fn rec e h
  |_=>none
 | .load n p k,h=>match A7 h n p with
  |some v=>IT.step fn rec (k v) h
  |none=>none
 | .store n p v k,h=>match Cv h n p v with
  |some h'=>IT.step fn rec k h'
  |none=>none
 | .alloc n v k,h=>match Xu h n v with
  |some (h',p)=>IT.step fn rec (k p) h'
  |none=>none
 | .call f args k,h=>match rec (fn f args) h with
  |some (.ret,[r],h')=>IT.step fn rec (k r) h'
  |_=>none
 | .Ji g args k,h=>match Dh g args with
  |some (f,args)=>match rec (fn f args) h with
   |some (.ret,[r],h')=>IT.step fn rec (k r) h'
   |_=>none
  |none=>none
 | .B6 f args k,h=>if args.all Aa.M9 then match rec (fn f args) [] with
   |some (.ret,[r],_)=>if r.M9 then IT.step fn rec (k r) h else none
   |_=>none
  else none
 | .loop key init body k,h=>match IT.step fn rec (body init) h with
  |some (.normal,vs,h')=>rec (.loop key vs body k) h'
  |some (x,vs,h')=>IT.step fn rec (k x vs) h'
  |none=>none
 | .OF _ t k,h=>match IT.step fn rec t h with
  |some (x,vs,h')=>IT.step fn rec (k x vs) h'
  |none=>none
 | .same a b k,h=>if Aa.beq a b then IT.step fn rec k h else none
 | .PK k,h=>IT.step fn rec (k (.map (some h.length))) (h++[.map []])
 | .KS m key v k,h=>match Rg h m key v with
  |some h'=>IT.step fn rec k h'
  |none=>none
 | .My zero ok m key k,h=>match PM h zero ok m key with
  |some v=>IT.step fn rec (k v) h
  |none=>none
 | .make size bytes zero len cap k,h=>match SH h size bytes zero len cap with
  |some (h',v)=>IT.step fn rec (k v) h'
  |none=>none
 | .LD size bytes s x k,h=>match K8 h size bytes s x with
  |some (h',v)=>IT.step fn rec (k v) h'
  |none=>none
 | .Fg s k,h=>match I4 h s with
  |some (h',v)=>IT.step fn rec (k v) h'
  |none=>none
 | .PH v k,h=>match KT h v with
  |some (h',v')=>IT.step fn rec (k v') h'
  |none=>none
 | .PL off p k,h=>match Mz h off p with
  |some h'=>IT.step fn rec k h'
  |none=>none
 | .JT size bytes s x k,h=>match Gj h size bytes s x with
  |some (h',v)=>IT.step fn rec (k v) h'
  |none=>none
 | .GJ size bytes s x k,h=>match Rh h size bytes s x with
  |some v=>IT.step fn rec (k v) h
  |none=>none
 | .mem o args k,h=>match Ep o h args with
  |some (h',v)=>IT.step fn rec (k v) h'
  |none=>none
 | .yM f args k,h=>match rec (fn f args) [] with
  |some (.ret,[r],_)=>if r.M9 then IT.step fn rec (k r) h else none
  |_=>none
def IT.run(fn:FuncId->List Aa->IT):Nat->IT->Ai->Option Km
 |0=>λ_ _=>none
 |n+1=>IT.step fn (IT.run fn n)
end Go.Am
end
section
namespace Go.Am
inductive Sh where
 |val
 |Bs
 |box (n:Nat) (Bs:List Nat)
 deriving Inhabited
inductive yP where
 |PQ|heap
 deriving DecidableEq,Inhabited
structure Gb where
 P:Program
 aCC:FuncId->Nat->List (Nat×Sh)
 aBe:FuncId->Nat->Option (List (Nat×Sh))
 aBf:FuncId->Nat->Option (List (Nat×Sh))
 kind:FuncId->Nat->yP
 Jq:FuncId->Bool
 aBg:FuncId->Bool
 jg:FuncId->Nat->Bool
 Xx:FuncId->Nat->Bool
 rq:FuncId->Bool
 r_:FuncId->List (Nat×Nat)
 Hk:Nat->Option (List Aa)
 aCD:FuncId->Option (List Aa->IT)
 alt:FuncId->FuncId->FuncId
 Na:FuncId->Bool
inductive EP where
 |pure (ws:List (Nat×Ew))
 |op (p:SF) (args:List Aa) (dst:Option Nat) (Bs:Bool) (DR:Option (Nat×Aa))
 |box (n:Nat) (v:Aa) (dst:Nat)
 |closure (fn:Fn) (first captured:List Aa) (froze:List (Nat×List Aa)) (dst:Nat)
 |Nz (s off n:Nat) (v:Aa) (Bs:Bool) (DR:Option (Nat×Aa)) (ver:Nat) (cells:List Aa) (owned:List Nat)
 |load (n:Option Nat) (p:Aa) (dst:Option Nat)
 |store (n:Nat) (p v:Aa)
 |alloc (n:Nat) (v:Aa) (dst:Option Nat)
 |call (f:FuncId) (args:List Aa) (dst:Option Nat)
 |Ji (g:Aa) (args:List Aa) (dst:Option Nat)
 |B6 (f:FuncId) (args:List Aa) (dst:Option Nat)
 |PK (dst:Option Nat)
 |KS (m k v:Aa)
 |My (zero:Aa) (ok:Bool) (m k:Aa) (dst:Option Nat)
 |make (size bytes:Nat) (zero:List Aa) (len cap:Aa) (dst:Option Nat)
 |LD (size bytes:Nat) (s x:Aa) (dst:Option Nat) (DR:Option (Nat×Aa))
 |JT (size bytes:Nat) (s x:Aa) (dst:Option Nat)
 |GJ (size bytes:Nat) (s x:Aa) (dst:Option Nat) (DR:Option (Nat×Aa))
 |Fg (s:Aa) (dst:Option Nat)
 |Xr (v:Aa) (dst:Option Nat)
 |mem (o:nH) (args:List Aa) (dst:Option Nat)
def B4(P:Program)(t:TypeId):Option Nat:=(P.info? t).map (·.size)
def Kq(P:Program)(t:TypeId):Option Nat:=(P.info? t).map (·.bytes)
def Ft(P:Program)(t:TypeId):Option (Option Nat):=
 match P.underlying t with
 |some (.struct _)|some (.array _ _)=>(B4 P t).map some
 |some _=>some none
 |none=>none
def Hl(P:Program)(t:TypeId):Option Aa:=((P.info? t).bind (·.zero)).bind Lr
def Xy(rec:TypeId->Option (List FK)):List Field->Nat->Option (List FK)
 |[],_=>some []
 |f::fs,off=>if f.name≠ "_"/\f.offset=off then match rec f.type with
   |some ks=>(Xy rec fs (off+ks.length)).map (ks++·)
   |none=>none
  else none
def PR(P:Program):Nat->TypeId->Option (List FK)
 |0,_=>none
 |d+1,t=>
  let one (k:FK):Option (List FK):=if B4 P t=some 1 then some [k] else none
  match P.underlying t with
  |some .bool=>one .b
  |some (.int _)=>one .i
  |some .string=>one .s
  |some (.struct fs)=>match Xy (PR P d) fs.toList 0 with
   |some ks=>if B4 P t=some ks.length/\P.stoodInHeld t=false then some ks else none
   |none=>none
  |_=>none
def IK(P:Program)(s:TypeId)(f:Nat):Option (Nat×Option Nat):=
 match P.underlying s with
 |some (.struct fs)=>match fs[f]? with
  |some fd=>match B4 P fd.type,Ft P fd.type with
   |some (_+1),some sh=>some (fd.offset,sh)
   |_,_=>none
  |none=>none
 |_=>none
def Ef(C:Gb)(U:BU):Operand->Option Ew
 | .tmp t=>some (U.at t)
 | .const (.bool b)=>some (.Px b)
 | .const (.slice none 0 0)=>some (.Bs .slnil)
 | .const v=>(Lr v).map .val
 | .global g=>(C.Hk g).map λcs=> .val (.CI cs)
 | .func f=>some (.val (.func (.func f) [] []))
def E6(C:Gb)(U:BU)(x:Operand):Option Aa:=(Ef C U x).bind Ew.Hz
def BB(C:Gb)(U:BU):List Operand->Option (List Aa)
 |[]=>some []
 |x::xs=>match E6 C U x,BB C U xs with
  |some v,some vs=>some (v::vs)
  |_,_=>none
def sd(ops:List Oper)(d:Nat):Bool:=
 ops.any λo=>match o.op with
  | .call c=>(match c.callee with| .builtin .append=>true|_=>false)&&(match(c.args[0]?:Option Operand) with|some (.tmp t)=>t==d|_=>false)
  |_=>false
def IL:Ew->Option Ew
 | .val v=>some (.val v)
 | .Px b=>some (.Px b)
 | .Bs v=>some (.val v)
 | .Fo s o=>some (.Fo s o)
 |_=>none
def SJ(x:Operand)(v:Aa):List (Nat×Ew):=
 match x with
 | .tmp s=>[(s,.val v)]
 |_=>[]
def K9(C:Gb)(U:BU)(x:Operand)(d:Nat)(take:Bool):Option EP:=
 match x,Ef C U x with
 | .tmp s,some (.box _ _ _)=>some (.pure [(d,.Fo s 0)])
 | .const _,some sl=>some (.pure [(d,sl)])
 |x,some (.Bs v)=>if take then some (.pure (SJ x v++[(d,.Bs v)])) else(IL (.Bs v)).map λs=> .pure [(d,s)]
 |_,some s=>(IL s).map λs=> .pure [(d,s)]
 |_,none=>none
def Xz(cs:List Aa):List Nat:=(List.range cs.length).filter λi=>match cs.getD i .nilIface with| .slnil=>true|_=>false
def NA(U:BU)(ds:List Nat):Bool:=U.all λs=>match s with| .Fo s _=> !ds.contains s|_=>true
def BU.drop(U:BU)(ds:List Nat):BU:=match ds with|[]=>U|ds=>U.map λs=>match s with| .Fo s o=>if ds.contains s then .undef else .Fo s o|s=>s
def UZ(C:Gb)(fid:FuncId)(t:TypeId)(v:Aa)(d:Nat):Option EP:=
 match B4 C.P t with
 |none=>none
 |some n=>if n=0 then none else match C.kind fid d with
  | .PQ=>some (.box n v d)
  | .heap=>some (.alloc n v (some d))
inductive aCE where
 |PQ (s off ver:Nat) (cells:List Aa) (Bs:List Nat)
 |ptr (p:Aa)
def Gv(C:Gb)(U:BU)(x:Operand):Option aCE:=
 match x,Ef C U x with
 | .tmp s,some (.box ver cs ow)=>some (.PQ s 0 ver cs ow)
 |_,some (.Fo s o)=>match U.at s with
  | .box ver cs ow=>some (.PQ s o ver cs ow)
  |_=>none
 |_,some s=>s.Hz.map .ptr
 |_,none=>none
def Ds(U:BU):Operand->Option (Nat×Aa)
 | .tmp s=>match U.at s with
  | .Bs v=>some (s,v)
  |_=>none
 |_=>none
def LF(C:Gb)(U:BU)(x:Operand):Bool:=match Ef C U x with|some (.Bs _)=>true|_=>false
def L1(C:Gb)(U:BU)(t:TypeId)(x:Operand)(d:Nat)(take:Bool):Option EP:=
 match Ft C.P t,Gv C U x with
 |some n,some (.ptr p)=>some (.load n p (some d))
 |some none,some (.PQ s o ver cs ow)=>
  if o<cs.length then
   let v:=cs.getD o .nilIface
   if ow.contains o&& !(ow.erase o).contains o&&take then some (.pure [(s,.box (ver+1) cs (ow.erase o)),(d,.Bs v)])
   else some (.pure [(d,.val v)])
  else none
 |some (some n),some (.PQ _ o _ cs _)=>if o+n<=cs.length then some (.pure [(d,.val (.agg ((cs.drop o).take n)))]) else none
 |_,_=>none
def JM(C:Gb)(U:BU)(t:TypeId)(x y:Operand):Option EP:=
 match B4 C.P t,Ft C.P t,Gv C U x,E6 C U y with
 |some (n+1),_,some (.ptr p),some v=>some (.store (n+1) p v)
 |some (n+1),some sh,some (.PQ s o ver cs ow),some v=>
  if o+(n+1)<=cs.length then
   let Bs:=sh.isNone&&LF C U y
   some (.Nz s o (n+1) v Bs (if Bs then Ds U y else none) ver cs ow)
  else none
 |_,_,_,_=>none
def T2(P:Program)(t:TypeId)(neg:Bool)(u:TypeDesc):Option SF:=
 match u with
 | .bool=>some (.beq neg)
 | .struct _=>if P.eqGuardType P.depth t=false then(PR P 20 t).map (.geq neg) else none
 | .pointer e=>if(B4 P e).getD 0=0 then none else some (.peq neg)
 | .slice _=>some (.Gu neg .sl)
 | .func _ _ _=>some (.Gu neg .fn)
 | .map _ _=>some (.Gu neg .mp)
 |_=>none
def QD(P:Program)(op:BinOp)(t:TypeId):Option SF:=
 match P.underlying t with
 |some (.int _)=>some (.int op)
 |some .string=>some (.str op)
 |some u=>match op with
  | .eql=>T2 P t false u
  | .neq=>T2 P t true u
  |_=>none
 |none=>none
def T3(p:SF)(dst:Option Nat):Option (List Aa)->Option EP
 |some args=>some (.op p args dst false none)
 |none=>none
def Kr(P:Program)(t:TypeId):List (Nat×Operand)->Option (List (Nat×Nat))
 |[]=>some []
 |(i,_)::rest=>match P.underlying t with
  |some (.struct fs)=>match fs[i]? with
   |some f=>match B4 P f.type,Kr P t rest with
    |some n,some r=>some ((f.offset,n)::r)
    |_,_=>none
   |none=>none
  |some (.array len e)=>if i<len then match B4 P e,Kr P t rest with
    |some n,some r=>some ((i*n,n)::r)
    |_,_=>none
   else none
  |_=>none
def MA(P:Program)(t:TypeId):Bool:=
 match P.info? t with
 |some i=>match i.zero with
  |some z=>z.cells.size==i.size
  |none=>false
 |none=>false
def Wz(P:Program)(t:TypeId):Bool:=
 match P.underlying t with
 |some (.struct fs)=>fs.toList.all λf=>(B4 P f.type).isSome
 |some (.array _ e)=>(B4 P e).isSome
 |_=>false
def T4(o:nH)(dst:Option Nat):Option (List Aa)->Option EP
 |some args=>some (.mem o args dst)
 |none=>none
def RL(C:Gb)(fid:FuncId)(U:BU)(c:Call)(dst:Option Nat):Option EP:=
 match c.callee with
 | .builtin .len=>match c.argTypes[0]? with
  |some t=>match C.P.underlying t with
   |some .string=>T3 (.len true) dst (BB C U c.args.toList)
   |some (.slice _)=>T3 (.len false) dst (BB C U c.args.toList)
   |_=>none
  |none=>none
 | .builtin .append=>match c.argTypes[0]?,c.argTypes[1]?,c.args.toList with
  |some t,some t',[s,x]=>match C.P.underlying t,C.P.underlying t' with
   |some (.slice e),some (.slice _)|some (.slice e),some .string=>match B4 C.P e,Kq C.P e with
    |some (n+1),some (b+1)=>if MA C.P e then match BB C U [s,x] with
      |some [v,u]=>if LF C U s then
        (if(dst.map (C.jg fid)).getD false then some (.LD (n+1) (b+1) v u dst (Ds U s))
        else if(dst.map (C.Xx fid)).getD false then some (.GJ (n+1) (b+1) v u dst (Ds U s))
        else some (.op (.append (n+1) (b+1)) [v,u] dst true (Ds U s)))
       else if(dst.map (C.jg fid)).getD false then some (.JT (n+1) (b+1) v u dst) else none
      |_=>none
     else none
    |_,_=>none
   |_,_=>none
  |_,_,_=>none
 | .builtin .copy=>match c.argTypes[0]?,c.argTypes[1]?,c.args.toList with
  |some t,some t',[s,x]=>match C.P.underlying t,C.P.underlying t' with
   |some (.slice e),some (.slice _)|some (.slice e),some .string=>match B4 C.P e with
    |some (n+1)=>T4 (.copy (n+1)) dst (BB C U [s,x])
    |_=>none
   |_,_=>none
  |_,_,_=>none
 | .builtin .clear=>match c.argTypes[0]?,c.args.toList with
  |some t,[s]=>match C.P.underlying t with
   |some (.slice e)=>match B4 C.P e,Hl C.P e with
    |some (n+1),some z=>T4 (.clear (n+1) z.cells) dst (BB C U [s])
    |_,_=>none
   |_=>none
  |_,_=>none
 | .builtin .max=>if c.args.size=2 then T3 (.LY true) dst (BB C U c.args.toList) else none
 | .builtin .min=>if c.args.size=2 then T3 (.LY false) dst (BB C U c.args.toList) else none
 | .value (.func f)=>if C.Na f then(match c.args.toList with
  |[s,i,v]=>if LF C U v then T4 .rl dst (BB C U [s,i,v]) else none
  |_=>none) else if EH (C.alt fid f)=f then(BB C U c.args.toList).map λargs=>if C.aBg (C.alt fid f) then .B6 (C.alt fid f) args dst else .call (C.alt fid f) args dst else none
 | .value g=>match E6 C U g,BB C U c.args.toList with
  |some g,some args=>some (.Ji g args dst)
  |_,_=>none
 |_=>none
def XA(C:Gb)(src dst:TypeId):Option (Option SF):=
 match C.P.underlying src,C.P.underlying dst with
 |some (.int _),some (.int k)=>some (some (.conv k))
 |some (.int _),some .string=>some (some .i2s)
 |some .string,some .string=>some none
 |some (.slice e),some .string=>match C.P.underlying e with
  |some (.int .u8)=>some (some .Xr)
  |_=>none
 |some .string,some (.slice e)=>match C.P.underlying e,B4 C.P e,Kq C.P e with
  |some (.int .u8),some 1,some 1=>some (some .s2b)
  |_,_,_=>none
 |_,_=>none
def Gw(C:Gb)(U:BU):List Operand->Option (List Aa×List (Nat×List Aa))
 |[]=>some ([],[])
 |x::xs=>match Gw C U xs with
  |none=>none
  |some (vs,fz)=>match x,Ef C U x with
   | .tmp s,some (.box _ cs _)=>if(fz.map (·.1)).contains s then none else some (.CI cs::vs,(s,cs)::fz)
   |_,some sl=>match sl.Hz with
    |some v=>some (v::vs,fz)
    |none=>none
   |_,none=>none
def Gx(C:Gb)(fid:FuncId)(ops:List Oper)(U:BU)(o:Oper):Option EP:=
 match o.op with
 | .move x=>match o.dst with
  |some d=>K9 C U x d (sd ops d)
  |none=>none
 | .assign x=>match o.dst with
  |some d=>K9 C U x d true
  |none=>none
 | .pick c a b=>match Ef C U c,o.dst with
  |some (.Px true),some d=>K9 C U a d false
  |some (.Px false),some d=>K9 C U b d false
  |_,dst=>T3 .pick dst (BB C U [c,a,b])
 | .alloc t=>match o.dst,Hl C.P t with
  |some d,some z=>match C.kind fid d with
   | .PQ=>if B4 C.P t=some z.cells.length/\z.cells≠[] then some (.pure [(d,.box 0 z.cells (Xz z.cells))]) else none
   |_=>UZ C fid t z d
  |_,_=>none
 | .box t x=>match o.dst,E6 C U x with
  |some d,some v=>UZ C fid t v d
  |_,_=>none
 | .build t parts=>match Hl C.P t,Kr C.P t parts.toList with
  |some z,some ps=>if Wz C.P t then T3 (.Ch z.cells ps) o.dst (BB C U (parts.toList.map (·.2))) else none
  |_,_=>none
 | .buildSlice t len parts=>match C.P.underlying t with
  |some (.slice e)=>match B4 C.P e with
   |some (n+1)=>if parts.toList.map (·.1)=List.range len/\MA C.P e=true then if len=0/\(o.dst.map (C.jg fid)).getD false=true then some (.op (.Gl (n+1)) [] o.dst true none) else(BB C U (parts.toList.map (·.2))).map λargs=> .op (.Dk (n+1)) args o.dst true none else none
   |_=>none
  |_=>none
 | .load t x=>match o.dst with
  |some d=>L1 C U t x d (sd ops d)
  |none=>none
 | .store t x y=>match o.dst with
  |none=>JM C U t x y
  |some _=>none
 | .nilCheck x=>match x,Ef C U x,o.dst with
  | .tmp s,some (.box _ _ _),some d=>some (.pure [(d,.Fo s 0)])
  |_,some (.Fo s k),some d=>some (.pure [(d,.Fo s k)])
  |x,_,dst=>T3 .JS dst (BB C U [x])
 | .binOp op t x y _=>match QD C.P op t with
  |some p=>T3 p o.dst (BB C U [x,y])
  |none=>none
 | .unOp op _ x=>T3 (.un op) o.dst (BB C U [x])
 | .convert src dst x=>match XA C src dst with
  |some (some .Xr)=>(E6 C U x).map λv=> .Xr v o.dst
  |some (some .s2b)=>if(o.dst.map (C.jg fid)).getD false then(E6 C U x).map λv=> .Fg v o.dst else T3 .s2b o.dst (BB C U [x])
  |some (some p)=>T3 p o.dst (BB C U [x])
  |_=>none
 | .makeFunc fn first captured=>match o.dst,BB C U first.toList,Gw C U captured.toList with
  |some d,some a,some (b,fz)=>some (.closure fn a b fz d)
  |_,_,_=>none
 | .makeMap _ none=>some (.PK o.dst)
 | .makeSlice t l c=>match C.P.underlying t with
  |some (.slice e)=>match B4 C.P e,Kq C.P e,Hl C.P e,E6 C U l,E6 C U c with
   |some (n+1),some (b+1),some z,some l,some c=>some (.make (n+1) (b+1) z.cells l c o.dst)
   |_,_,_,_,_=>none
  |_=>none
 | .insert t m k v| .mapUpdate t m k v=>match C.P.underlying t with
  |some (.map kt _)=>match o.dst,C.P.underlying kt,BB C U [m,k,v] with
   |none,some .string,some [m,k,v]=>some (.KS m k v)
   |none,some (.int .i64),some [m,k,v]=>some (.mem .í [m,k,v] none)
   |_,_,_=>none
  |_=>none
 | .lookup t m k ok=>match C.P.underlying t with
  |some (.map kt e)=>match C.P.underlying kt,Hl C.P e,BB C U [m,k] with
   |some .string,some z,some [m,k]=>some (.My z ok m k o.dst)
   |some (.int .i64),some z,some [m,k]=>some (.mem (.rj z ok) [m,k] o.dst)
   |_,_,_=>none
  |_=>none
 | .slice t x (some lo) (some hi) (some mx)=>match C.P.underlying t with
  |some (.slice e)=>match B4 C.P e with
   |some (n+1)=>T4 (.sV (n+1)) o.dst (BB C U [x,lo,hi,mx])
   |_=>none
  |_=>none
 | .makeInterface t x=>match C.P.underlying t with
  |some (.interface _)=>none
  |some _=>T4 (.aF9 t) o.dst (BB C U [x])
  |none=>none
 | .mapEntry t m k=>match C.P.underlying t with
  |some (.map kt e)=>match C.P.underlying kt,Hl C.P e with
   |some (.int .i64),some z=>T4 (.T0 z) o.dst (BB C U [m,k])
   |some .string,some z=>T4 (.eB z) o.dst (BB C U [m,k])
   |_,_=>none
  |_=>none
 | .entryStore _ m s v=>match o.dst with
  |none=>T4 .OE none (BB C U [m,s,v])
  |some _=>none
 | .slice t x lo hi none=>match C.P.underlying t with
  |some .string=>T3 (.K6 0 true lo.isSome hi.isSome) o.dst (BB C U (x::(lo.toList++hi.toList)))
  |some (.slice e)=>match B4 C.P e with
   |some (n+1)=>if(o.dst.map (C.jg fid)).getD false then T4 (.jf (n+1) lo.isSome hi.isSome) o.dst (BB C U (x::(lo.toList++hi.toList)))
    else T3 (.K6 (n+1) false lo.isSome hi.isSome) o.dst (BB C U (x::(lo.toList++hi.toList)))
   |_=>none
  |_=>none
 | .fieldAddr t x f=>match IK C.P t f,o.dst with
  |some (off,_),some d=>match x,Ef C U x with
   | .tmp s,some (.box _ _ _)=>some (.pure [(d,.Fo s off)])
   |_,some (.Fo s k)=>some (.pure [(d,.Fo s (k+off))])
   |x,_=>T3 (.LC off) (some d) (BB C U [x])
  |_,_=>none
 | .field t x f=>match IK C.P t f with
  |some (off,sh)=>T3 (.part off sh) o.dst (BB C U [x])
  |none=>none
 | .indexAddr t x i=>match C.P.underlying t with
  |some (.slice e)=>match B4 C.P e with
   |some (n+1)=>T3 (.Ff (n+1)) o.dst (BB C U [x,i])
   |_=>none
  |some (.array len e)=>match B4 C.P e with
   |some (n+1)=>if len<=1 then none else T3 (.UY len (n+1)) o.dst (BB C U [x,i])
   |_=>none
  |_=>none
 | .index t x i=>match C.P.underlying t with
  |some .string=>T3 .ZT o.dst (BB C U [x,i])
  |some (.array len e)=>match B4 C.P e,Ft C.P e with
   |some (n+1),some sh=>T3 (.aCA len (n+1) sh) o.dst (BB C U [x,i])
   |_,_=>none
  |_=>none
 | .extract x i=>T3 (.ext i) o.dst (BB C U [x])
 | .call c=>RL C fid U c o.dst
 |_=>none
def BU.En(U:BU):List (Nat×Ew)->BU
 |[]=>U
 |(s,x)::ws=>BU.En (U.set s x) ws
def BU.put(U:BU)(dst:Option Nat)(x:Ew):BU:=
 match dst with
 |some d=>U.set d x
 |none=>U
def BU.DR(U:BU):Option (Nat×Aa)->BU
 |some (s,v)=>U.set s (.val v)
 |none=>U
def XB(n:Nat)(cs:List Aa):List Aa:=(List.range n).map λi=>cs.getD i .nilIface
def XC(cs:List Aa)(off n:Nat)(vs:List Aa):List Aa:=cs.take off++vs++cs.drop (off+n)
def SK(owned:List Nat)(off n:Nat)(Bs:Bool):List Nat:=
 let rest:=owned.filter λo=> !(off<=o&&o<off+n)
 if Bs then off::rest else rest
def EP.MB(C:Gb)(U:BU)(K:BU->IT):EP->IT
 | .pure ws=>K (U.En ws)
 | .op p args dst Bs e=> .op p args λv=>K ((U.DR e).put dst (if Bs then .Bs v else .val v))
 | .box n v d=> .cells n v λcs=>K (U.set d (.box 0 (XB n cs) []))
 | .closure fn a b fz d=>K ((U.En (fz.map λ(s,cs)=>(s,.val (.CI cs)))).set d (.val (.func fn a b)))
 | .Nz s off n v Bs e ver cells owned=> .cells n v λvs=>K ((U.DR e).set s (.box (ver+1) (XC cells off n (XB n vs)) (SK owned off n Bs)))
 | .load n p dst=> .load n p λv=>K (U.put dst (.val v))
 | .store n p v=> .store n p v (K U)
 | .alloc n v dst=> .alloc n v λp=>K (U.put dst (.val p))
 | .call f args dst=> .call f args λr=>K (U.put dst (if C.Jq f then .Bs r else .val r))
 | .Ji g args dst=> .Ji g args λr=>K (U.put dst (.val r))
 | .B6 f args dst=> .B6 f args λr=>K (U.put dst (.val r))
 | .PK dst=> .PK λm=>K (U.put dst (.val m))
 | .KS m k v=> .KS m k v (K U)
 | .My z ok m k dst=> .My z ok m k λv=>K (U.put dst (.val v))
 | .make z b zero l c dst=> .make z b zero l c λv=>K (U.put dst (.val v))
 | .LD z b s x dst e=> .LD z b s x λv=>K ((U.DR e).put dst (.val v))
 | .JT z b s x dst=> .JT z b s x λv=>K (U.put dst (.val v))
 | .GJ z b s x dst e=> .GJ z b s x λv=>K ((U.DR e).put dst (.Bs v))
 | .Fg s dst=> .Fg s λv=>K (U.put dst (.val v))
 | .Xr v dst=> .PH v λv=> .op .Xr [v] λu=>K (U.put dst (.val u))
 | .mem o args dst=> .mem o args λv=>K (U.put dst (if o.aGa then .undef else .val v))
def EP.news:EP->List Nat
 | .pure ws=>ws.filterMap λ(s,x)=>match x with| .box 0 _ _=>some s|_=>none
 | .box _ _ d=>[d]
 | .closure _ _ _ fz _=>fz.map (·.1)
 |_=>[]
inductive aGc where
 |NX (run:Bool)
 |ask (sX:Nat) (v:Aa) (want:Bool)
 |bad
def I5(ops:List Oper)(U:BU)(o:Oper):aGc:=
 match o.guard with
 |none=> .NX true
 |some (j,want)=>match(ops[j]?).bind (·.dst) with
  |some s=>match U.at s with
   | .Px b=> .NX (b==want)
   | .val v=> .ask s v want
   | .skip=> .NX false
   |_=> .bad
  |none=> .bad
def sg(C:Gb)(fid:FuncId)(ops:List Oper)(U:BU)(o:Oper)(K:BU->IT):IT:=
 match Gx C fid ops U o with
 |some r=>r.MB C (U.drop r.news) K
 |none=> .fail
def T5(C:Gb)(fid:FuncId)(ops:List Oper)(U:BU)(o:Oper)(K:BU->IT):IT:=
 match I5 ops U o with
 | .NX true=>sg C fid ops U o K
 | .NX false=>K (U.put o.dst .skip)
 | .ask s v want=>
  let t:=if want then sg C fid ops (U.set s (.Px true)) o K else K (BU.put (U.set s (.Px true)) o.dst .skip)
  let e:=if want then K (BU.put (U.set s (.Px false)) o.dst .skip) else sg C fid ops (U.set s (.Px false)) o K
  .Gm v t e
 | .bad=> .fail
def T6:FuncId->Bool
 |_=>false
def SL(C:Gb)(U:BU)(o:Oper):List (Nat×List Aa):=
 match o.op with
 | .call c=>(match c.callee with
  | .value (.func f)=>if T6 f then(match Gw C U c.args.toList with|some (_,fz)=>fz|none=>[]) else[]
  |_=>[])
 |_=>[]
def aCG(C:Gb)(U:BU)(o:Oper):BU:=(U.drop ((SL C U o).map (·.1))).En ((SL C U o).map λ(s,cs)=>(s,.val (.CI cs)))
def yQ(C:Gb)(fid:FuncId)(ops:List Oper):List Oper->BU->(BU->IT)->IT
 |[],U,K=>K U
 |o::rest,U,K=>T5 C fid ops (aCG C U o) o λU=>yQ C fid ops rest U K
end Go.Am
end
section
namespace Go.Am
def Oper.VU(o:Oper):List Nat:=o.after.toList.filterMap λe=>if Region.binds .any e then some e.on else none
def bit(i:Nat):Nat:=2^i
def LG(DZ:List Nat):List Oper->List Nat
 |[]=>DZ
 |o::rest=>LG (DZ++[(Oper.VU o).foldl (λm e=>m|||bit e|||DZ.getD e 0) 0]) rest
def XD(ops:List Oper):List Nat:=LG [] ops
def Ex(an:List Nat)(i j:Nat):Bool:=(an.getD j 0).testBit i
def aBh(o:Oper):Bool:=
 match o.op with
 | .call c=>(match c.callee with| .builtin .copy| .builtin .clear=>true| .builtin _=>false|_=>true)
 | .store _ _ _| .insert _ _ _ _| .mapUpdate _ _ _ _| .makeMap _ _| .makeSlice _ _ _| .mapEntry _ _ _| .entryStore _ _ _ _=>true
 |_=>false
def XE(all:List Oper)(DZ:List Nat):List Oper->List Nat
 |[]=>DZ
 |o::rest=>XE all (DZ++[(Oper.VU o).foldl (λm e=>Nat.max m (DZ.getD e 0+(match all[e]? with|some x=>if aBh x then 1 else 0|none=>0))) 0]) rest
def î(ops:List Oper):List Nat:=
 let st:=XE ops [] ops
 let idx:=List.range ops.length
 let Sy:=λi=>match ops[i]? with|some o=>aBh o|none=>false
 (List.range (ops.length+1)).flatMap λs=>(idx.filter λi=>st.getD i 0==s&& !Sy i)++(idx.filter λi=>st.getD i 0==s&&Sy i)
structure FP where
 rs:List Nat
 wf:List Nat
 hl:Bool
 Sy:Bool
 news:List Nat
 lr:List Nat
 T7:Bool
 deriving Inhabited
def Ks(xs:List Operand):List Nat:=xs.filterMap λ| .tmp t=>some t|_=>none
def OG(C:Gb)(U:BU)(x:Operand):Option Nat:=
 match Gv C U x with
 |some (.PQ s _ _ _ _)=>some s
 |_=>none
def Il(C:Gb)(U:BU)(o:Oper):List Nat:=
 match o.op with
 | .load _ x=>(OG C U x).toList
 | .store _ x _=>(OG C U x).toList
 | .makeFunc _ _ captured=>Ks captured.toList
 |_=>[]
def EP.wf:EP->List Nat
 | .pure ws=>ws.map (·.1)
 | .op _ _ dst _ a=>dst.toList++(a.map (·.1)).toList
 | .box _ _ d=>[d]
 | .closure _ _ _ fz d=>d::fz.map (·.1)
 | .Nz s _ _ _ _ a _ _ _=>s::(a.map (·.1)).toList
 | .load _ _ dst| .alloc _ _ dst| .call _ _ dst| .Ji _ _ dst| .B6 _ _ dst| .PK dst| .My _ _ _ _ dst| .make _ _ _ _ _ dst| .Fg _ dst| .Xr _ dst| .JT _ _ _ _ dst| .mem _ _ dst=>dst.toList
 | .LD _ _ _ _ dst a| .GJ _ _ _ _ dst a=>dst.toList++(a.map (·.1)).toList
 | .store _ _ _| .KS _ _ _=>[]
def EP.hl:EP->Bool
 | .load _ _ _| .My _ _ _ _ _=>true
 |_=>false
def EP.Sy:EP->Bool
 | .store _ _ _| .alloc _ _ _| .call _ _ _| .Ji _ _ _| .PK _| .KS _ _ _| .make _ _ _ _ _ _| .LD _ _ _ _ _ _| .Fg _ _| .Xr _ _| .JT _ _ _ _ _| .GJ _ _ _ _ _ _| .mem _ _ _=>true
 |_=>false
def FG(ops:List Oper)(o:Oper):List Nat:=
 match o.guard with
 |none=>[]
 |some (j,_)=>((ops[j]?).bind (·.dst)).toList
def WA(xs:List Ew):List Nat:=xs.filterMap λ| .Fo t _=>some t|_=>none
def EP.yR:EP->List Nat
 | .pure ws=>WA (ws.map (·.2))
 |_=>[]
def EP.T7(U:BU)(r:EP):Bool:=
 NA U r.news&&match r with
  | .load _ _ (some d)=>decide (d<U.length)
  | .load _ _ none| .My _ _ _ _ _| .closure _ _ _ (_::_) _=>false
  |_=>true
def VV(C:Gb)(ops:List Oper)(U:BU)(o:Oper)(r:Option EP):FP:=
 match r with
 |none=>{rs:=FG ops o,wf:=o.dst.toList,hl:=false,Sy:=false,news:=[],lr:=WA (o.dst.toList.map U.at),T7:=true}
 |some r=>{rs:=FG ops o++Ks o.op.operands.toList++Il C U o,wf:=r.wf++o.dst.toList,hl:=r.hl,Sy:=r.Sy,news:=r.news,lr:=WA ((r.wf++o.dst.toList).map U.at)++r.yR,T7:=r.T7 U}
def U4(a b:List Nat):Bool:=a.any λx=>b.contains x
def FP.apart(x y:FP):Bool:= !U4 x.wf (y.rs++y.wf)&& !U4 y.wf x.rs&& !U4 x.lr y.news&& !U4 y.lr x.news
def RM(x y:FP):Bool:=x.T7&&y.T7&&x.apart y&& !(x.Sy&&y.Sy)&& !(x.Sy&&y.hl)
def XF(n:Nat)(an:List Nat)(a:List (Nat×FP)):Bool:=
 go a&&(List.range n).all (λi=>(a.map (·.1)).contains i)
where
 go:List (Nat×FP)->Bool
  |[]=>true
  |(i,f)::rest=>rest.all (λ(j,g)=>i != j&& !Ex an j i&&(Ex an i j||RM f g))&&go rest
structure KZ where
 idx:Nat
 n:Option Nat
 p:Aa
 v:Aa
def SM(an:List Nat)(i:Nat):List KZ->IT->IT
 |[],t=>t
 |f::fs,t=>if Ex an f.idx i then SM an i fs t else .load f.n f.p λv=> .same f.v v (SM an i fs t)
def Nf(i:Nat)(r:EP)(U:BU)(fl:List KZ):List KZ:=
 match r with
 | .load n p (some d)=>match U.at d with
  | .val v=>{idx:=i,n,p,v}::fl
  |_=>fl
 |_=>fl
def SN(ops:List Oper)(i:Nat):Bool:=ops.any λo=>match o.guard with|some (j,_)=>j==i|none=>false
def yS(d:Option Nat)(U:BU)(K:BU->IT):IT:=
 match d with
 |none=>K U
 |some d=>match U.at d with
  | .val v=> .Gm v (K (U.set d (.Px true))) (K (U.set d (.Px false)))
  |_=>K U
def RO(C:Gb)(fid:FuncId)(ops:List Oper)(an:List Nat):List Nat->List (Nat×FP)->List KZ->BU->(BU->IT)->IT
 |[],a,_,U,K=>if XF ops.length an a.reverse then K U else .fail
 |i::rest,a,fl,U,K=>
  match ops[i]? with
  |none=> .fail
  |some o=>match I5 ops U o with
   | .NX true=>match Gx C fid ops U o with
    |none=> .fail
    |some r=>r.MB C (U.drop r.news) λc=>
     let next:=yS (if SN ops i then o.dst else none) c λb=>RO C fid ops an rest ((i,VV C ops U o (some r))::a) (Nf i r c fl) b K
     if r.Sy then SM an i fl next else next
   | .NX false=>RO C fid ops an rest ((i,VV C ops U o none)::a) fl (U.put o.dst .skip) K
   |_=> .fail
def Ey(ops:List Oper)(o:Oper):List Nat:=
 o.dst.toList++match o.op with
  | .move (.tmp s)=>(match o.dst with|some d=>if sd ops d then[s] else[]|none=>[])
  | .assign (.tmp s)=>[s]
  | .store _ _ (.tmp s)=>[s]
  | .call c=>(match c.callee with| .builtin .append=>Ks c.args.toList| .value (.func f)=>if T6 f then Ks c.args.toList else[]|_=>[])
  | .makeFunc _ _ captured=>Ks captured.toList
  |_=>[]
def Di:Code->List Nat
 | .region _ ops _=>ops.toList.flatMap (Ey ops.toList)
 | .seq a b=>Di a++Di b
 | .cond _ a b=>Di a++Di b
 | .block _ b=>Di b
 | .loop b=>Di b
 | .scope b=>Di b
 |_=>[]
def Cf:Code->List Nat
 | .region _ ops _=>ops.toList.flatMap (FG ops.toList)
 | .seq a b=>Cf a++Cf b
 | .cond (.tmp s) a b=>s::(Cf a++Cf b)
 | .cond _ a b=>Cf a++Cf b
 | .block _ b=>Cf b
 | .loop b=>Cf b
 | .scope b=>Cf b
 |_=>[]
def BU.clear(U:BU):List Nat->BU
 |[]=>U
 |s::ss=>BU.clear (U.set s .undef) ss
def GW:Code->Option Nat
 | .region id _ _=>some id
 | .seq a b=>(GW a).orElse λ_=>GW b
 | .cond _ a b=>(GW a).orElse λ_=>GW b
 | .block _ b| .loop b| .scope b=>GW b
 |_=>none
def XG(U:BU):List (Nat×Sh)->Option (List Aa)
 |[]=>some []
 |(s,sh)::l=>
  let v:=match sh,U.at s with
   | .val,x=>x.Hz
   | .Bs,.Bs v=>some v
   | .box n ow,.box _ cs OA=>if cs.length=n/\ow.all (OA.contains ·) then some (.agg cs) else none
   |_,_=>none
  match v,XG U l with
  |some v,some vs=>some (v::vs)
  |_,_=>none
def aX:Ew->Nat
 | .box ver _ _=>ver
 |_=>0
def JU(vs:List Aa):List (Nat×Sh)->Nat->BU->(BU->IT)->IT
 |[],_,U,K=>K U
 |(s,.val)::l,i,U,K=>JU vs l (i+1) (U.set s (.val (vs.getD i .nilIface))) K
 |(s,.Bs)::l,i,U,K=>JU vs l (i+1) (U.set s (.Bs (vs.getD i .nilIface))) K
 |(s,.box n ow)::l,i,U,K=> .cells n (vs.getD i .nilIface) λcs=>JU vs l (i+1) (U.set s (.box (aX (U.at s)+1) (XB n cs) ow)) K
def sY(U:BU)(a:BU)(l:List (Nat×Sh)):Bool:=
 (List.range U.length).all λs=>match U.at s with
  | .box ver _ _=>(l.map (·.1)).contains s||(match a.at s with| .box Gy _ _=>Gy==ver|_=>false)
  | .Fo _ _=>(l.map (·.1)).contains s||(match a.at s with| .Fo _ _=>true|_=>false)
  |_=>true
def T8(b:BU)(l:List (Nat×Sh))(x:DU)(a:BU):IT:=
 if sY b a l then match XG a l with
  |some vs=> .ret x vs
  |none=> .fail
 else .fail
def sj(l:List (Nat×Sh))(ws:List Nat)(U:BU):Bool:=l.all λ(s,_)=>ws.contains s||(match U.at s with| .box _ _ _=>true|_=>false)
def eC(ops:List Oper):Bool:=ops.zipIdx.all λ(o,i)=>(Oper.VU o).all λe=>decide (e<i)
def SO(C:Gb)(fid:FuncId)(ops:List Oper)(draw:Bool)(U:BU)(K:BU->IT):IT:=
 if draw then(if eC ops then RO C fid ops (XD ops) (î ops) [] [] U K else .fail) else yQ C fid ops ops U K
def eD(key:Nat)(U:BU)(ws:List Nat)(l:List (Nat×Sh))(t:(DU->BU->IT)->IT)(K:DU->BU->IT):IT:=
 let b:=U.clear ws
 if sj l ws U then .OF key (t λx a=>T8 b l x a) λx vs=>JU vs l 0 b λa=>K x a else .fail
def aBi(K:DU->BU->IT):DU->BU->IT
 | .normal,_=> .fail
 | .exit i,U=>K (.exit i) U
 | .ret,U=>K .ret U
def GA(C:Gb)(fid:FuncId):Code->BU->(DU->BU->IT)->IT
 | .skip,U,K=>K .normal U
 | .region id ops draw,U,K=>match C.aBf fid id with
  |none=>SO C fid ops.toList draw U (K .normal)
  |some l=>eD (200000+id) U (ops.toList.flatMap (Ey ops.toList)++ops.toList.flatMap (FG ops.toList)) l (λK=>SO C fid ops.toList draw U (K .normal)) K
 | .seq a b,U,K=>GA C fid a U λx d=>match x with
  | .normal=>GA C fid b d K
  | .exit i=>K (.exit i) d
  | .ret=>K .ret d
 | .cond c a b,U,K=>match c,Ef C U c with
  |_,some (.Px true)=>GA C fid a U K
  |_,some (.Px false)=>GA C fid b U K
  | .tmp s,some (.val v)=>match C.aBe fid s with
   |none=> .Gm v (GA C fid a (U.set s (.Px true)) K) (GA C fid b (U.set s (.Px false)) K)
   |some l=>eD (100000+s) U (s::(Di a++Di b++Cf a++Cf b)) l (λK=> .Gm v (GA C fid a (U.set s (.Px true)) K) (GA C fid b (U.set s (.Px false)) K)) K
  |_,_=> .fail
 | .block id b,U,K=>GA C fid b U λx d=>match x with
  | .normal=>K .normal d
  | .exit i=>if i=id then K .normal d else K (.exit i) d
  | .ret=>K .ret d
 | .loop b,U,K=>
  let l:=C.aCC fid ((GW b).getD 0)
  let ws:=Di b++Cf b
  let f:=U.clear ws
  if sj l ws U then match XG U l with
   |none=> .fail
   |some init=> .loop ((GW b).getD 0) init (λvs=>JU vs l 0 f λe=>GA C fid b e λx d=>T8 f l x d) λx vs=>JU vs l 0 f λd=>aBi K x d
  else .fail
 | .exit id,U,K=>K (.exit id) U
 | .ret,U,K=>K .ret U
 | .scope b,U,K=>GA C fid b U K
 | .label _,U,K=>K .normal U
 |_,_,_=> .fail
def GR(C:Gb)(U:BU):List ResultVar->List Aa->(List Aa->IT)->IT
 |[],DZ,K=>K DZ.reverse
 | .tmp t::rs,DZ,K=>match(U.at t).Hz with
  |some v=>GR C U rs (v::DZ) K
  |none=> .fail
 | .cell a t::rs,DZ,K=>match Ft C.P t,Gv C U (.tmp a) with
  |some none,some (.PQ _ o _ cs _)=>if o<cs.length then GR C U rs (cs.getD o .nilIface::DZ) K else .fail
  |some (some n),some (.PQ _ o _ cs _)=>if o+n<=cs.length then GR C U rs (.agg ((cs.drop o).take n)::DZ) K else .fail
  |some n,some (.ptr p)=> .load n p λv=>GR C U rs (v::DZ) K
  |_,_=> .fail
def QE(U:BU):List ResultVar->Bool
 |[.tmp t]=>match U.at t with| .Bs _=>true|_=>false
 |_=>false
def yT(C:Gb)(U:BU):List (Nat×Nat)->IT->IT
 |[],t=>t
 |(s,off)::l,t=>match(U.at s).Hz with
  |some p=> .PL off p (yT C U l t)
  |none=> .fail
def PS:List Aa->List Aa->(List Aa->IT)->IT
 |[],DZ,K=>K DZ.reverse
 |v::vs,DZ,K=> .PH v λv=>PS vs (v::DZ) K
def U5:List Aa->IT
 |[v]=> .ret .ret [v]
 |vs=> .ret .ret [.tuple vs]
def nL(C:Gb)(fid:FuncId)(fn:Func)(U:BU):IT:=
 if C.Jq fid&& !QE U fn.results.toList then .fail
 else yT C U (C.r_ fid) (GR C U fn.results.toList [] λvs=>if C.rq fid then PS vs [] U5 else U5 vs)
def sk(C:Gb)(fid:FuncId)(fn:Func)(args:List Aa):IT:=
 match fn.body with
 |none=> .fail
 |some c=>GA C fid c (args.map .val++List.replicate (fn.ntmps-args.length) .undef) λx U=>match x with
  | .normal=>nL C fid fn U
  | .exit _=> .fail
  | .ret=>nL C fid fn U
def aGd(C:Gb)(fid:FuncId)(args:List Aa):IT:=
 match C.P.funcs[EH fid]? with
 |some fn=>if fn.name== "runtime.NumGoroutine" then .fail else sk C fid fn args
 |none=> .fail
def Ca(C:Gb)(fid:FuncId)(args:List Aa):IT:=
 match C.aCD fid with
 |some p=>p args
 |none=>aGd C fid args
abbrev g(l:List Aa)(i:Nat):Aa:=l.getD i .nilIface
abbrev I(n:Int):Aa:= .int .i64 n
abbrev S(s:Aj):Aa:= .str s
abbrev tt:Aa:= .bool true
abbrev ff:Aa:= .bool false
abbrev Gb.run(C:Gb):Nat->IT->Ai->Option Km:=IT.run (Ca C)
end Go.Am
end
end
section
namespace Go.Am
def IT.J6{fn:FuncId->List Aa->IT}{rec aGe:IT->Ai->Option Km}(hr:∀t h r,rec t h=some r->aGe t h=some r):
  ∀(t:IT) (h:Ai) (r:Km),IT.step fn rec t h=some r->IT.step fn aGe t h=some r:=by
 intro t;induction t with
 |ret x vs=>intro h r d;simpa[IT.step] using d
 |fail=>intro h r d;simp[IT.step] at d
 |op o args k ih=>
  intro h r d;simp only[IT.step] at d⊢;split at d;.exact ih _ _ _ d
  .cases d
 |cells n v k ih=>
  intro h r d;simp only[IT.step] at d⊢;split at d;.rename_i hc;rw[Af hc];exact ih _ _ _ d
  .cases d
 |Gm c t e i q=>
  intro h r d;simp only[IT.step] at d⊢;split at d;.exact i _ _ d
  .exact q _ _ d
  .cases d
 |load n p k ih=>
  intro h r d;simp only[IT.step] at d⊢;split at d;.exact ih _ _ _ d
  .cases d
 |store n p v k ih=>
  intro h r d;simp only[IT.step] at d⊢;split at d;.exact ih _ _ d
  .cases d
 |alloc n v k ih=>
  intro h r d;simp only[IT.step] at d⊢;split at d;.exact ih _ _ _ d
  .cases d
 |call f args k ih=>
  intro h r d;simp only[IT.step] at d⊢;split at d;.rename_i h1;rw[hr _ _ _ h1];exact ih _ _ _ d
  .cases d
 |Ji g args k ih=>
  intro h r d;simp only[IT.step] at d⊢;split at d
  .rename_i f a ht;split at d;.rename_i h1;simp only[hr _ _ _ h1];exact ih _ _ _ d
   .cases d
  .cases d
 |B6 f args k ih=>
  intro h r d;simp only[IT.step] at d⊢;split at d
  .rename_i Hu;rw[Af Hu];split at d
   .rename_i h1;rw[hr _ _ _ h1];split at d;.rename_i qg;simp only[qg,BJ];exact ih _ _ _ d
    .cases d
   .cases d
  .cases d
 |loop key init body k l j=>
  intro h r d;simp only[IT.step] at d⊢;split at d;.rename_i h1;rw[l _ _ _ h1];exact hr _ _ _ d
  .rename_i x vs h1 hne hx;rw[l _ _ _ hx];cases x<;>first|exact j _ _ _ _ d|exact absurd rfl hne
  .cases d
 |OF key t k i j=>
  intro h r d;simp only[IT.step] at d⊢;split at d;.rename_i h1;rw[i _ _ h1];exact j _ _ _ _ d
  .cases d
 |same a b k ih=>
  intro h r d;simp only[IT.step] at d⊢;split at d;.rename_i hc;rw[Af hc];exact ih _ _ d
  .cases d
 |PK k ih=>intro h r d;simp only[IT.step] at d⊢;exact ih _ _ _ d
 |KS m key v k ih=>
  intro h r d;simp only[IT.step] at d⊢;split at d;.exact ih _ _ d
  .cases d
 |My z ok m key k ih=>
  intro h r d;simp only[IT.step] at d⊢;split at d;.exact ih _ _ _ d
  .cases d
 |make size bytes zero len cap k ih=>
  intro h r d;simp only[IT.step] at d⊢;split at d;.exact ih _ _ _ d
  .cases d
 |LD size bytes s x k ih=>
  intro h r d;simp only[IT.step] at d⊢;split at d;.exact ih _ _ _ d
  .cases d
 |Fg s k ih=>
  intro h r d;simp only[IT.step] at d⊢;split at d;.exact ih _ _ _ d
  .cases d
 |PH v k ih=>
  intro h r d;simp only[IT.step] at d⊢;split at d;.exact ih _ _ _ d
  .cases d
 |PL off p k ih=>
  intro h r d;simp only[IT.step] at d⊢;split at d;.exact ih _ _ d
  .cases d
 |JT size bytes s x k ih=>
  intro h r d;simp only[IT.step] at d⊢;split at d;.exact ih _ _ _ d
  .cases d
 |GJ size bytes s x k ih=>
  intro h r d;simp only[IT.step] at d⊢;split at d;.exact ih _ _ _ d
  .cases d
 |mem o args k ih=>
  intro h r d;simp only[IT.step] at d⊢;split at d;.exact ih _ _ _ d
  .cases d
 |yM f args k ih=>
  intro h r d;simp only[IT.step] at d⊢;split at d
  .rename_i h1;rw[hr _ _ _ h1];split at d;.rename_i qg;simp only[qg,BJ];exact ih _ _ _ d
   .cases d
  .cases d
def IT.sm{fn:FuncId->List Aa->IT}:∀(n:Nat) (t:IT) (h:Ai) (r:Km),IT.run fn n t h=some r->IT.run fn (n+1) t h=some r:=by
 intro n;induction n with
 |zero=>intro t h r a;simp[IT.run] at a
 |succ n ih=>intro t h r a;exact IT.J6 (λt h r=>ih t h r) t h r a
def IT.Ir{fn:FuncId->List Aa->IT}{n m:Nat}(hnm:n<=m){t:IT}{h:Ai}{r:Km}(a:IT.run fn n t h=some r):IT.run fn m t h=some r:=by
 induction hnm with
 |refl=>exact a
 |step _ ih=>exact IT.sm _ _ _ _ ih
abbrev HO:=DU->List Aa->Ai->Prop
def W(C:Gb)(t:IT)(Q:HO)(h:Ai):Prop:=∃n x vs h',C.run n t h=some (x,vs,h')/\Q x vs h'
section
variable{C:Gb}{Q:HO}{h:Ai}
def W.mono{t:IT}{Q':HO}(hw:W C t Q h)(hq:∀x vs h',Q x vs h'->Q' x vs h'):W C t Q' h:=
 let⟨n,x,vs,h',hr,q⟩:=hw;⟨n,x,vs,h',hr,hq _ _ _ q⟩
def aBj{x:DU}{vs:List Aa}(hq:Q x vs h):W C (.ret x vs) Q h:=⟨1,x,vs,h,rfl,hq⟩
def C9{t:IT}(a:∃n x vs h',IT.step (Ca C) (C.run n) t h=some (x,vs,h')/\Q x vs h'):W C t Q h:=
 let⟨n,x,vs,h',hr,q⟩:=a;⟨n+1,x,vs,h',hr,q⟩
def W.succ{t:IT}(a:W C t Q h):∃n x vs h',IT.step (Ca C) (C.run n) t h=some (x,vs,h')/\Q x vs h':=by
 obtain⟨n,x,vs,h',hr,q⟩:=a;cases n with
 |zero=>simp[Gb.run,IT.run] at hr
 |succ n=>exact⟨n,x,vs,h',hr,q⟩
def aGf{o:SF}{args:List Aa}{k:Aa->IT}{v:Aa}(hv:AD o args=some v)(hw:W C (k v) Q h):W C (.op o args k) Q h:=by obtain⟨n,x,vs,h',hr,q⟩:=hw.succ;exact C9 ⟨n,x,vs,h',by simp only[IT.step,hv];exact hr,q⟩
def yU{n:Nat}{v:Aa}{k:List Aa->IT}(hv:v.cells.length=n)(hw:W C (k v.cells) Q h):W C (.cells n v k) Q h:=by obtain⟨m,x,vs,h',hr,q⟩:=hw.succ;exact C9 ⟨m,x,vs,h',by simp only[IT.step,hv,BJ];exact hr,q⟩
def yV{b:Bool}{t e:IT}(ht:b=true->W C t Q h)(he:b=false->W C e Q h):W C (.Gm (.bool b) t e) Q h:=by
 cases b with
 |true=>obtain⟨m,x,vs,h',hr,q⟩:=(ht rfl).succ;exact C9 ⟨m,x,vs,h',by simp only[IT.step];exact hr,q⟩
 |false=>obtain⟨m,x,vs,h',hr,q⟩:=(he rfl).succ;exact C9 ⟨m,x,vs,h',by simp only[IT.step];exact hr,q⟩
def sn{n:Option Nat}{p v:Aa}{k:Aa->IT}(hv:A7 h n p=some v)(hw:W C (k v) Q h):W C (.load n p k) Q h:=by obtain⟨m,x,vs,h',hr,q⟩:=hw.succ;exact C9 ⟨m,x,vs,h',by simp only[IT.step,hv];exact hr,q⟩
def yW{n:Nat}{p v:Aa}{k:IT}{h1:Ai}(hv:Cv h n p v=some h1)(hw:W C k Q h1):W C (.store n p v k) Q h:=by obtain⟨m,x,vs,h',hr,q⟩:=hw.succ;exact C9 ⟨m,x,vs,h',by simp only[IT.step,hv];exact hr,q⟩
def yX{n:Nat}{v:Aa}{k:Aa->IT}(hv:v.cells.length=n)(hw:W C (k (.ptr (some (h.length,0)))) Q (h++[.cells v.cells])):W C (.alloc n v k) Q h:=by obtain⟨m,x,vs,h',hr,q⟩:=hw.succ;exact C9 ⟨m,x,vs,h',by simp only[IT.step,Xu,hv,BJ];exact hr,q⟩
def so{a b:Aa}{k:IT}(hv:Aa.beq a b=true)(hw:W C k Q h):W C (.same a b k) Q h:=by obtain⟨m,x,vs,h',hr,q⟩:=hw.succ;exact C9 ⟨m,x,vs,h',by simp only[IT.step,hv,BJ];exact hr,q⟩
def sq{k:Aa->IT}(hw:W C (k (.map (some h.length))) Q (h++[.map []])):W C (.PK k) Q h:=by obtain⟨m,x,vs,h',hr,q⟩:=hw.succ;exact C9 ⟨m,x,vs,h',by simp only[IT.step];exact hr,q⟩
def sr{m key v:Aa}{k:IT}{h1:Ai}(hv:Rg h m key v=some h1)(hw:W C k Q h1):W C (.KS m key v k) Q h:=by obtain⟨n,x,vs,h',hr,q⟩:=hw.succ;exact C9 ⟨n,x,vs,h',by simp only[IT.step,hv];exact hr,q⟩
def su{z:Aa}{ok:Bool}{m key v:Aa}{k:Aa->IT}(hv:PM h z ok m key=some v)(hw:W C (k v) Q h):W C (.My z ok m key k) Q h:=by obtain⟨n,x,vs,h',hr,q⟩:=hw.succ;exact C9 ⟨n,x,vs,h',by simp only[IT.step,hv];exact hr,q⟩
def sZ{size bytes:Nat}{zero:List Aa}{len cap v:Aa}{k:Aa->IT}{h1:Ai}(hv:SH h size bytes zero len cap=some (h1,v))(hw:W C (k v) Q h1):W C (.make size bytes zero len cap k) Q h:=by obtain⟨n,x,vs,h',hr,q⟩:=hw.succ;exact C9 ⟨n,x,vs,h',by simp only[IT.step,hv];exact hr,q⟩
def yY{size bytes:Nat}{s x v:Aa}{k:Aa->IT}{h1:Ai}(hv:K8 h size bytes s x=some (h1,v))(hw:W C (k v) Q h1):W C (.LD size bytes s x k) Q h:=by obtain⟨n,x,vs,h',hr,q⟩:=hw.succ;exact C9 ⟨n,x,vs,h',by simp only[IT.step,hv];exact hr,q⟩
def XH{s v:Aa}{k:Aa->IT}{h1:Ai}(hv:I4 h s=some (h1,v))(hw:W C (k v) Q h1):W C (.Fg s k) Q h:=by obtain⟨n,x,vs,h',hr,q⟩:=hw.succ;exact C9 ⟨n,x,vs,h',by simp only[IT.step,hv];exact hr,q⟩
def aBk{u v:Aa}{k:Aa->IT}{h1:Ai}(hv:KT h u=some (h1,v))(hw:W C (k v) Q h1):W C (.PH u k) Q h:=by obtain⟨n,x,vs,h',hr,q⟩:=hw.succ;exact C9 ⟨n,x,vs,h',by simp only[IT.step,hv];exact hr,q⟩
def yZ{off:Nat}{p:Aa}{k:IT}{h1:Ai}(hv:Mz h off p=some h1)(hw:W C k Q h1):W C (.PL off p k) Q h:=by obtain⟨n,x,vs,h',hr,q⟩:=hw.succ;exact C9 ⟨n,x,vs,h',by simp only[IT.step,hv];exact hr,q⟩
def sx{size bytes:Nat}{s x v:Aa}{k:Aa->IT}{h1:Ai}(hv:Gj h size bytes s x=some (h1,v))(hw:W C (k v) Q h1):W C (.JT size bytes s x k) Q h:=by obtain⟨n,x,vs,h',hr,q⟩:=hw.succ;exact C9 ⟨n,x,vs,h',by simp only[IT.step,hv];exact hr,q⟩
def aY{size bytes:Nat}{s x v:Aa}{k:Aa->IT}(hv:Rh h size bytes s x=some v)(hw:W C (k v) Q h):W C (.GJ size bytes s x k) Q h:=by obtain⟨n,x,vs,h',hr,q⟩:=hw.succ;exact C9 ⟨n,x,vs,h',by simp only[IT.step,hv];exact hr,q⟩
def aBl{o:nH}{args:List Aa}{v:Aa}{k:Aa->IT}{h1:Ai}(hv:Ep o h args=some (h1,v))(hw:W C (k v) Q h1):W C (.mem o args k) Q h:=by obtain⟨n,x,vs,h',hr,q⟩:=hw.succ;exact C9 ⟨n,x,vs,h',by simp only[IT.step,hv];exact hr,q⟩
def Ev(C:Gb)(f:FuncId)(args:List Aa)(h:Ai)(R:Aa->Ai->Prop):Prop:=
 W C (Ca C f args) (λx vs h'=>x= .ret/\∃r,vs=[r]/\R r h') h
def Ev.mono{f:FuncId}{args:List Aa}{R R':Aa->Ai->Prop}(hw:Ev C f args h R)(hr:∀r h',R r h'->R' r h'):Ev C f args h R':=
 W.mono hw λ_ _ _ ⟨hx,r,hv,hR⟩=>⟨hx,r,hv,hr _ _ hR⟩
def sy{f:FuncId}{args:List Aa}{k:Aa->IT}(hc:Ev C f args h λr h1=>W C (k r) Q h1):W C (.call f args k) Q h:=by obtain⟨n,x,vs,h1,hr,hx,r,hv,m,x',Ia,h',Gc,q⟩:=hc;subst hx;subst hv;refine C9 ⟨max n m,x',Ia,h',?_,q⟩;have a:=IT.Ir (H7 n m) hr;have h2:=IT.Ir (Br (Hw n m) (Fl _)) Gc;simp only[IT.step];simp only[Gb.run] at*;rw[a];exact h2
def ï{f:FuncId}{args:List Aa}{k:Aa->IT}(ha:args.all Aa.M9=true)(hc:Ev C f args [] λr _=>r.M9=true/\W C (k r) Q h):W C (.B6 f args k) Q h:=by obtain⟨n,x,vs,h1,hr,hx,r,hv,Hu,m,x',Ia,h',Gc,q⟩:=hc;subst hx;subst hv;refine C9 ⟨max n m,x',Ia,h',?_,q⟩;have a:=IT.Ir (H7 n m) hr;have h2:=IT.Ir (Br (Hw n m) (Fl _)) Gc;simp only[IT.step,ha,BJ];simp only[Gb.run] at*;rw[a];simp only[Hu,BJ];exact h2
def s_{key:Nat}{t:IT}{k:DU->List Aa->IT}(hw:W C t (λx vs h1=>W C (k x vs) Q h1) h):W C (.OF key t k) Q h:=by obtain⟨n,x,vs,h1,hr,a⟩:=hw.succ;obtain⟨m,x',Ia,h',Gc,q⟩:=a.succ;refine C9 ⟨max n m,x',Ia,h',?_,q⟩;have c:=IT.J6 (λt h r=>IT.Ir (fn:=Ca C) (H7 n m)) _ _ _ hr;have b:=IT.J6 (λt h r=>IT.Ir (fn:=Ca C) (Hw n m)) _ _ _ Gc;simp only[IT.step];simp only[Gb.run] at*;rw[c];exact b
end
end Go.Am
end
