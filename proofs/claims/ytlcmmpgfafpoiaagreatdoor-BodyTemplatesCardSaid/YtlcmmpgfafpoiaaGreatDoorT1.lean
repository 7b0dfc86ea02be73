/- Lemmas -/
import GoSem.Step
set_option linter.all false
def Ad:=@if_neg
def Af:=@if_pos
def Ag:=@Nat.le_refl
def Ai:=@List.getElem?_append_left
def Aj:=@List.length_map
def Ak:=@List.getElem?_eq_getElem
def Al:=@List.getElem?_eq_some_iff
def Ao:=@false_implies
def Ap:=@List.getElem?_set_ne
def Aq:=@decide_eq_false
def As:=@decide_eq_true
def Au:=@true_implies
def Av:=@List.length_append
def Aw:=@List.length_take
def Ax:=@List.mem_append
def Ay:=@not_false_eq_true
def AA:=@not_true_eq_false
def AE:=@List.take_succ_eq_append_getElem
def AF:=@List.take_of_length_le
def AG:=@List.drop_eq_getElem_cons
def AI:=@List.append_assoc
def AJ:=@List.getD_eq_getElem?_getD
def AM:=@eq_true
def AN:=@List.getElem_mem
def AO:=@List.getElem?_set_self
def AP:=@List.Sublist.refl
def AQ:=@Nat.lt_or_ge
def AX:=@List.mem_cons
def AY:=@Int.toNat_natCast
def AZ:=@Nat.zero_le
def A0:=@List.drop_of_length_le
def A8:=@Array.getElem?_eq_some_iff
def A9:=@List.length_singleton
def Bd:=@List.getElem?_append_right
def Be:=@List.length_drop
def Bf:=@List.length_cons
def Bk:=@List.map_cons
def Bm:=@List.mem_map
def Bn:=@List.mem_of_mem_take
def Bp:=@List.length_set
def Br:=@Nat.le_trans
def Bu:=@Nat.add_zero
def Bv:=@Bool.and_eq_true
def Bw:=@List.mem_of_mem_drop
def Bx:=@List.take_length
def By:=@List.append_nil
def BB:=@List.set_append_right
def BD:=@Option.some.injEq
def BE:=@List.map_append
def BI:=@if_true
def BJ:=@Nat.add_mul
def BL:=@Nat.zero_add
def BQ:=@List.set_eq_take_append_cons_drop
def BT:=@List.length_nil
def BU:=@List.nil_append
def BW:=@List.mem_append_right
def B2:=@ne_eq
def B3:=@List.nodup_append
def B5:=@Option.map_some
def B6:=@List.nodup_cons
def B8:=@List.size_toArray
def Ca:=@congrArg
def Cb:=@Nat.zero_lt_one
def Cf:=@Array.length_toList
def Cg:=@List.getElem?_take
def Ch:=@List.mem_filterMap
def Ck:=@List.getElem?_map
def Cm:=@Option.bind_some
def Cq:=@Nat.min_eq_left
def Cr:=@List.getElem?_drop
def Cu:=@Bool.false_eq_true
def Cz:=@List.mem_of_getElem?
def CA:=@List.mem_append_left
def CB:=@eq_self
def CD:=@List.take_append_drop
def CI:=@List.take_append_of_le_length
def CK:=@List.flatten_cons
def CL:=@decide_eq_true_eq
def CM:=@List.take_sublist
def CO:=@List.cons_append
def CU:=@List.getElem?_of_mem
def CW:=@Array.getElem?_eq_getElem
def CZ:=@List.getElem_map
def C1:=@List.getElem?_take_of_lt
def C2:=@List.map_nil
def C9:=@List.all_eq_true
def Da:=@Nat.succ_pos
def Db:=@decide_eq_decide
def Dc:=@Nat.sub_self
def Dd:=@List.mem_or_eq_of_mem_set
def Dj:=@Nat.lt_irrefl
def Dt:=@List.mem_singleton
def Dw:=@List.eq_nil_of_length_eq_zero
def Dx:=@decide_true
def Dy:=@List.length_pos_iff
def DG:=@if_false
def DH:=@decide_false
def DJ:=@Ne.symm
def DM:=@List.mem_filter
def DY:=@Nat.mul_le_mul_right
def DZ:=@List.filter_append
def D7:=@Option.some.inj
def Ea:=@Nat.one_mul
def Ef:=@List.getElem?_eq_none
def El:=@List.drop_drop
def Ep:=@List.map_set
def Er:=@List.drop_length
def EI:=@List.findIdx?_eq_some_iff_findIdx_eq
def EJ:=@List.reverse_cons
def EM:=@List.filterMap_append
def E5:=@List.cons.injEq
def Fb:=@Nat.add_sub_cancel
def Fj:=@Nat.le_succ
def Fk:=@List.reverse_reverse
def Ft:=@List.map_take
def FD:=@List.take_take
def FE:=@List.take_left
def FH:=@Nat.mul_one
def FZ:=@List.length_replicate
def Gb:=@Array.eq_empty_of_size_eq_zero
def Gc:=@Nat.le_add_right
def Gl:=@List.getElem_append_left
def GC:=@Int.le_refl
def GH:=@of_decide_eq_true
def GK:=@List.find?_cons
def GY:=@Array.toList_append
def GZ:=@Int.toNat_of_nonneg
def Hk:=@Array.getD_eq_getD_getElem?
def Hl:=@Bool.false_or
def Ho:=@Nat.le_max_right
def Hp:=@Option.getD_some
def Hq:=@List.filter_cons
def HD:=@Array.ext'
def HE:=@List.set_getElem_self
def HO:=@List.extract_eq_take_drop
def HP:=@Nat.le_max_left
def HQ:=@List.take_left'
def H8:=@bne_self_eq_false
def Io:=@Prod.mk.injEq
def Iv:=@List.reverse_append
def Iw:=@List.filterMap_cons
def IN:=@Nat.le_mul_of_pos_right
def IP:=@List.getElem?_cons_zero
def IQ:=@Bool.not_false
def IS:=@Int.eq_ofNat_of_zero_le
def Ji:=@List.drop_append_of_le_length
def Jp:=@Nat.eq_zero_or_pos
def Jq:=@List.reverse_singleton
def Jr:=@List.find?_eq_none
def Js:=@Int.not_lt
def JD:=@List.drop_left'
def JI:=@Bool.or_false
def JJ:=@List.map_drop
def JW:=@List.singleton_append
def JX:=@List.dropLast_eq_take
def Ka:=@Array.size_append
def Kb:=@Decidable.not_not
def Ky:=@List.drop_zero
def Kz:=@List.take_zero
def KA:=@Array.replicate_succ
def KB:=@Array.replicate_zero
def KQ:=@List.getLast?_eq_getElem?
def K4:=@List.toList_toArray
def K5:=@List.flatten_append
def K6:=@List.replicate_succ
def K8:=@List.append_toArray
def K9:=@List.length_reverse
def LU:=@Nat.lt_of_lt_of_le
def LY:=@List.getElem?_cons_succ
def LZ:=@List.length_eq_zero_iff
def MG:=@Nat.le_of_eq
def MH:=@Nat.zero_mul
def MI:=@List.flatMap_cons
def MJ:=@and_true
def MK:=@List.nodup_nil
def ML:=@true_and
def MM:=@Option.map_eq_some_iff
def MN:=@List.push_toArray
def MO:=@Nat.le_of_lt
def Nc:=@Array.getElem?_modify
def Nd:=@Nat.eq_of_beq_eq_true
def Nr:=@Array.toList_map
def Ns:=@not_or
def Nt:=@Nat.lt_succ_self
def Nu:=@List.not_mem_nil
def Nx:=@List.any_cons
def N8:=@Array.toList_extract
def OR:=@Bool.or_eq_true
def OS:=@Bool.eq_iff_iff
def O2:=@List.take_set_of_le
def O3:=@List.drop_take_self
def O4:=@List.mem_map_of_mem
def Pe:=@Nat.add_comm
def Pf:=@Nat.ne_of_lt
def Pg:=@List.set_set
def Qa:=@Array.ext_getElem?
def Qb:=@List.set_cons_zero
def Qc:=@Int.fdiv_eq_ediv_of_nonneg
def QQ:=@Option.filter_eq_some_iff
def QR:=@List.mem_of_find?_eq_some
def Rf:=@List.ext_getElem?
def Rg:=@List.find?_append
def RO:=@Bool.not_true
def RP:=@Nat.add_assoc
def RQ:=@Bool.bne_true
def Tn:=@decide_eq_false_iff_not
def To:=@List.drop_append
def Tp:=@List.reverse_nil
def Tq:=@Option.bind_eq_some_iff
def Tr:=@Nat.add_sub_cancel_left
def Ts:=@List.any_eq_true
def Tt:=@List.map_reverse
def Um:=@List.sublist_cons_self
def Un:=@Bool.true_or
def Uo:=@List.any_nil
def Vk:=@List.find?_some
def Vl:=@List.any_append
def Vm:=@UInt8.toNat_inj
def VR:=@List.length_filter_le
def Ze:=@List.mem_cons_of_mem
def Zf:=@and_self
def Zg:=@List.length_dropLast
def Zq:=@false_and
def ZV:=@List.take_succ_cons
def ZW:=@List.drop_set_of_lt
def ZX:=@Array.getElem?_push
def ZY:=@List.map_congr_left
def ZZ:=@List.filter_eq_self
def cN:=@List.all_cons
def lI:=@Option.isSome_some
def qC:=@dif_pos
def qD:=@List.getLast?_nil
def qP:=@Array.getElem?_setIfInBounds_ne
def qQ:=@List.takeWhile_append_dropWhile
def vZ:=@List.zipIdx_cons
def v8:=@List.take_append
def wA:=@List.mem_flatMap
def wB:=@Nat.max_eq_right
def mv:=@List.foldl_cons
def ob:=@eq_comm
def E_:=@beq_iff_eq
def F_:=@Bool.and_false
def G_:=@Bool.bne_false
def H_:=@Bool.false_and
def I_:=@or_false
def U_:=@List.getElem_append_right
def aAb:=@List.take_add
def aAc:=@List.eq_of_mem_replicate
def aAd:=@List.drop_nil
def aAe:=@List.take_nil
def aAf:=@Int.lt_irrefl
def aAg:=@Int.ofNat.inj
def aBE:=@and_false
def aBF:=@List.filter_cons_of_pos
def aEw:=@List.length_eq_one_iff
def aEx:=@Iff.rfl
def aEy:=@Bool.or_true
def aEz:=@or_self
def aEA:=@List.getElem_cons_zero
def aFd:=@List.contains_iff_mem
def aFe:=@Array.getElem?_toList
def aFf:=@List.getElem_set_self
def aJu:=@List.getElem?_append
def aJv:=@List.range_eq_range'
def aJw:=@List.pairwise_append
def aJx:=@List.set_append_left
def aJy:=@List.mem_of_getLast?
def aKm:=@Nat.add_sub_cancel'
def aKn:=@Array.toList_zipIdx
def aKo:=@List.getD_cons_zero
def aKp:=@List.getD_cons_succ
def aKq:=@List.takeWhile_cons
def aKr:=@List.dropWhile_cons
def aN8:=@List.zip_cons_cons
def aN9:=@Array.foldl_toList
def aOa:=@List.pairwise_cons
def aOb:=@Option.isSome_none
def aOc:=@List.findIdx?_cons
def aOd:=@Option.toList_some
def aOe:=@List.map_singleton
def aOf:=@List.set_cons_succ
def aPB:=@Bool.not_eq_true'
def aPC:=@List.getElem?_set
def aPD:=@List.pairwise_map
def aPF:=@List.any_eq_false
def aPG:=@List.drop_sublist
def aPH:=@List.getElem_take
abbrev aTN:List UInt8:=[97,116,116,114,105,98,117,116,101,78,97,109,101,32,97,116,116,114,105,98,117,116,101,84,121,112,101,32,98,97,115,101,70,114,101,113,117,101,110,99,121,32,98,97,115,101,80,114,111,102,105,108,101,32,99,97,108,99,77,111,100,101,32,99,108,105,112,80,97,116,104,85,110,105,116,115,32,100,105,102,102,117,115,101,67,111,110,115,116,97,110,116,32,101,100,103,101,77,111,100,101,32,102,105,108,116,101,114,85,110,105,116,115,32,103,108,121,112,104,82,101,102,32,103,114,97,100,105,101,110,116,84,114,97,110,115,102,111,114,109,32,103,114,97,100,105,101,110,116,85,110,105,116,115,32,107,101,114,110,101,108,77,97,116,114,105,120,32,107,101,114,110,101,108,85,110,105,116,76,101,110,103,116,104,32,107,101,121,80,111,105,110,116,115,32,107,101,121,83,112,108,105,110,101,115,32,107,101,121,84,105,109,101,115,32,108,101,110,103,116,104,65,100,106,117,115,116,32,108,105,109,105,116,105,110,103,67,111,110,101,65,110,103,108,101,32,109,97,114,107,101,114,72,101,105,103,104,116,32,109,97,114,107,101,114,85,110,105,116,115,32,109,97,114,107,101,114,87,105,100,116,104,32,109,97,115,107,67,111,110,116,101,110,116,85,110,105,116,115,32,109,97,115,107,85,110,105,116,115,32,110,117,109,79,99,116,97,118,101,115,32,112,97,116,104,76,101,110,103,116,104,32,112,97,116,116,101,114,110,67,111,110,116,101,110,116,85,110,105,116,115,32,112,97,116,116,101,114,110,84,114,97,110,115,102,111,114,109,32,112,97,116,116,101,114,110,85,110,105,116,115,32,112,111,105,110,116,115,65,116,88,32,112,111,105,110,116,115,65,116,89,32,112,111,105,110,116,115,65,116,90,32,112,114,101,115,101,114,118,101,65,108,112,104,97,32,112,114,101,115,101,114,118,101,65,115,112,101,99,116,82,97,116,105,111,32,112,114,105,109,105,116,105,118,101,85,110,105,116,115,32,114,101,102,88,32,114,101,102,89,32,114,101,112,101,97,116,67,111,117,110,116,32,114,101,112,101,97,116,68,117,114,32,114,101,113,117,105,114,101,100,69,120,116,101,110,115,105,111,110,115,32,114,101,113,117,105,114,101,100,70,101,97,116,117,114,101,115,32,115,112,101,99,117,108,97,114,67,111,110,115,116,97,110,116,32,115,112,101,99,117,108,97,114,69,120,112,111,110,101,110,116,32,115,112,114,101,97,100,77,101,116,104,111,100,32,115,116,97,114,116,79,102,102,115,101,116,32,115,116,100,68,101,118,105,97,116,105,111,110,32,115,116,105,116,99,104,84,105,108,101,115,32,115,117,114,102,97,99,101,83,99,97,108,101,32,115,121,115,116,101,109,76,97,110,103,117,97,103,101,32,116,97,98,108,101,86,97,108,117,101,115,32,116,97,114,103,101,116,88,32,116,97,114,103,101,116,89,32,116,101,120,116,76,101,110,103,116,104,32,118,105,101,119,66,111,120,32,118,105,101,119,84,97,114,103,101,116,32,120,67,104,97,110,110,101,108,83,101,108,101,99,116,111,114,32,121,67,104,97,110,110,101,108,83,101,108,101,99,116,111,114,32,122,111,111,109,65,110,100,80,97,110]
abbrev aTO:List UInt8:=[97,100,100,114,101,115,115,32,97,112,112,108,101,116,32,97,114,101,97,32,97,114,116,105,99,108,101,32,97,115,105,100,101,32,98,97,115,101,32,98,97,115,101,102,111,110,116,32,98,103,115,111,117,110,100,32,98,108,111,99,107,113,117,111,116,101,32,98,111,100,121,32,98,114,32,98,117,116,116,111,110,32,99,97,112,116,105,111,110,32,99,101,110,116,101,114,32,99,111,108,32,99,111,108,103,114,111,117,112,32,100,100,32,100,101,116,97,105,108,115,32,100,105,114,32,100,105,118,32,100,108,32,100,116,32,101,109,98,101,100,32,102,105,101,108,100,115,101,116,32,102,105,103,99,97,112,116,105,111,110,32,102,105,103,117,114,101,32,102,111,111,116,101,114,32,102,111,114,109,32,102,114,97,109,101,32,102,114,97,109,101,115,101,116,32,104,49,32,104,50,32,104,51,32,104,52,32,104,53,32,104,54,32,104,101,97,100,32,104,101,97,100,101,114,32,104,103,114,111,117,112,32,104,114,32,104,116,109,108,32,105,102,114,97,109,101,32,105,109,103,32,105,110,112,117,116,32,107,101,121,103,101,110,32,108,105,32,108,105,110,107,32,108,105,115,116,105,110,103,32,109,97,105,110,32,109,97,114,113,117,101,101,32,109,101,110,117,32,109,101,116,97,32,110,97,118,32,110,111,101,109,98,101,100,32,110,111,102,114,97,109,101,115,32,110,111,115,99,114,105,112,116,32,111,98,106,101,99,116,32,111,108,32,112,32,112,97,114,97,109,32,112,108,97,105,110,116,101,120,116,32,112,114,101,32,115,99,114,105,112,116,32,115,101,97,114,99,104,32,115,101,99,116,105,111,110,32,115,101,108,101,99,116,32,115,111,117,114,99,101,32,115,116,121,108,101,32,115,117,109,109,97,114,121,32,116,97,98,108,101,32,116,98,111,100,121,32,116,100,32,116,101,109,112,108,97,116,101,32,116,101,120,116,97,114,101,97,32,116,102,111,111,116,32,116,104,32,116,104,101,97,100,32,116,105,116,108,101,32,116,114,32,116,114,97,99,107,32,117,108,32,119,98,114,32,120,109,112]
abbrev aTP:List UInt8:=[97,108,116,71,108,121,112,104,32,97,108,116,71,108,121,112,104,68,101,102,32,97,108,116,71,108,121,112,104,73,116,101,109,32,97,110,105,109,97,116,101,67,111,108,111,114,32,97,110,105,109,97,116,101,77,111,116,105,111,110,32,97,110,105,109,97,116,101,84,114,97,110,115,102,111,114,109,32,99,108,105,112,80,97,116,104,32,102,101,66,108,101,110,100,32,102,101,67,111,108,111,114,77,97,116,114,105,120,32,102,101,67,111,109,112,111,110,101,110,116,84,114,97,110,115,102,101,114,32,102,101,67,111,109,112,111,115,105,116,101,32,102,101,67,111,110,118,111,108,118,101,77,97,116,114,105,120,32,102,101,68,105,102,102,117,115,101,76,105,103,104,116,105,110,103,32,102,101,68,105,115,112,108,97,99,101,109,101,110,116,77,97,112,32,102,101,68,105,115,116,97,110,116,76,105,103,104,116,32,102,101,68,114,111,112,83,104,97,100,111,119,32,102,101,70,108,111,111,100,32,102,101,70,117,110,99,65,32,102,101,70,117,110,99,66,32,102,101,70,117,110,99,71,32,102,101,70,117,110,99,82,32,102,101,71,97,117,115,115,105,97,110,66,108,117,114,32,102,101,73,109,97,103,101,32,102,101,77,101,114,103,101,32,102,101,77,101,114,103,101,78,111,100,101,32,102,101,77,111,114,112,104,111,108,111,103,121,32,102,101,79,102,102,115,101,116,32,102,101,80,111,105,110,116,76,105,103,104,116,32,102,101,83,112,101,99,117,108,97,114,76,105,103,104,116,105,110,103,32,102,101,83,112,111,116,76,105,103,104,116,32,102,101,84,105,108,101,32,102,101,84,117,114,98,117,108,101,110,99,101,32,102,111,114,101,105,103,110,79,98,106,101,99,116,32,103,108,121,112,104,82,101,102,32,108,105,110,101,97,114,71,114,97,100,105,101,110,116,32,114,97,100,105,97,108,71,114,97,100,105,101,110,116,32,116,101,120,116,80,97,116,104]
abbrev aTQ:List UInt8:=[98,97,115,101,32,98,97,115,101,102,111,110,116,32,98,103,115,111,117,110,100,32,108,105,110,107,32,109,101,116,97,32,110,111,102,114,97,109,101,115,32,115,99,114,105,112,116,32,115,116,121,108,101,32,116,101,109,112,108,97,116,101,32,116,105,116,108,101]
abbrev aTR:List UInt8:=[116,101,109,112,108,97,116,101]
abbrev aTS:List UInt8:=[120,108,105,110,107,58,97,99,116,117,97,116,101,32,120,108,105,110,107,58,97,114,99,114,111,108,101,32,120,108,105,110,107,58,104,114,101,102,32,120,108,105,110,107,58,114,111,108,101,32,120,108,105,110,107,58,115,104,111,119,32,120,108,105,110,107,58,116,105,116,108,101,32,120,108,105,110,107,58,116,121,112,101]
abbrev aTT:List UInt8:=[104,116,109,108]
abbrev aTU:List UInt8:=[97,112,112,108,101,116,32,99,97,112,116,105,111,110,32,104,116,109,108,32,109,97,114,113,117,101,101,32,111,98,106,101,99,116,32,116,97,98,108,101,32,116,100,32,116,101,109,112,108,97,116,101,32,116,104]
abbrev aTV:List UInt8:=[100,100,32,100,116,32,108,105,32,111,112,116,103,114,111,117,112,32,111,112,116,105,111,110,32,112,32,114,98,32,114,112,32,114,116,32,114,116,99]
abbrev aTW:List UInt8:=[99,97,112,116,105,111,110,32,99,111,108,103,114,111,117,112,32,116,98,111,100,121,32,116,102,111,111,116,32,116,104,101,97,100]
abbrev aTX:List UInt8:=[99,97,112,116,105,111,110,32,99,111,108,103,114,111,117,112,32,116,98,111,100,121,32,116,100,32,116,102,111,111,116,32,116,104,32,116,104,101,97,100,32,116,114]
abbrev aTY:List UInt8:=[104,101,97,100]
abbrev aTZ:List UInt8:=[98,97,115,101,32,98,97,115,101,102,111,110,116,32,98,103,115,111,117,110,100,32,108,105,110,107,32,109,101,116,97]
abbrev aT0:List UInt8:=[110,111,115,99,114,105,112,116]
abbrev aT1:List UInt8:=[97,110,110,111,116,97,116,105,111,110,45,120,109,108]
abbrev aT2:List UInt8:=[116,105,116,108,101]
abbrev aT3:List UInt8:=[116,97,98,108,101,32,116,98,111,100,121,32,116,102,111,111,116,32,116,104,101,97,100,32,116,114]
abbrev aT4:List UInt8:=[100,101,115,99,32,102,111,114,101,105,103,110,79,98,106,101,99,116,32,116,105,116,108,101]
abbrev aT5:List UInt8:=[115,99,114,105,112,116]
abbrev aT6:List UInt8:=[116,97,98,108,101]
abbrev aT7:List UInt8:=[99,97,112,116,105,111,110]
abbrev aT8:List UInt8:=[111,112,116,103,114,111,117,112,32,111,112,116,105,111,110]
abbrev aT9:List UInt8:=[97,112,112,108,105,99,97,116,105,111,110,47,120,104,116,109,108,43,120,109,108]
abbrev aUa:List UInt8:=[98,117,116,116,111,110]
abbrev aUb:List UInt8:=[98,111,100,121]
abbrev aUc:List UInt8:=[120,109,108,110,115,58,120,108,105,110,107]
abbrev aUd:List UInt8:=[110,111,102,114,97,109,101,115,32,115,116,121,108,101]
abbrev aUe:List UInt8:=[104,116,109,108,32,116,97,98,108,101,32,116,101,109,112,108,97,116,101]
abbrev aUf:List UInt8:=[102,111,114,101,105,103,110,79,98,106,101,99,116]
abbrev aUg:List UInt8:=[120,108,105,110,107,58,97,114,99,114,111,108,101]
abbrev aUh:List UInt8:=[120,108,105,110,107,58,97,99,116,117,97,116,101]
abbrev aUi:List UInt8:=[109,105,32,109,110,32,109,111,32,109,115,32,109,116,101,120,116]
abbrev aUj:List UInt8:=[104,101,97,100,32,116,101,109,112,108,97,116,101,32,98,111,100,121,32,104,116,109,108,32,98,114]
abbrev aUk:List UInt8:=[99,111,108,103,114,111,117,112]
abbrev aUl:List UInt8:=[120,108,105,110,107,58,116,105,116,108,101]
abbrev aUm:List UInt8:=[104,49,32,104,50,32,104,51,32,104,52,32,104,53,32,104,54]
abbrev aUn:List UInt8:=[120,109,108,58,115,112,97,99,101]
abbrev aUo:List UInt8:=[116,102,111,111,116]
abbrev aUp:List UInt8:=[120,109,108,110,115]
abbrev aUq:List UInt8:=[111,112,116,103,114,111,117,112]
abbrev aUr:List UInt8:=[116,98,111,100,121]
abbrev aUs:List UInt8:=[116,104,101,97,100]
abbrev aUt:List UInt8:=[120,108,105,110,107,58,104,114,101,102]
abbrev aUu:List UInt8:=[120,108,105,110,107,58,114,111,108,101]
abbrev aUv:List UInt8:=[120,108,105,110,107,58,115,104,111,119]
abbrev aUw:List UInt8:=[120,108,105,110,107,58,116,121,112,101]
abbrev aUx:List UInt8:=[102,114,97,109,101,115,101,116]
abbrev aUy:List UInt8:=[100,101,102,105,110,105,116,105,111,110,117,114,108]
abbrev aUz:List UInt8:=[97,112,112,108,101,116,32,109,97,114,113,117,101,101,32,111,98,106,101,99,116]
abbrev aUA:List UInt8:=[120,109,108,58,108,97,110,103]
abbrev aUB:List UInt8:=[111,112,116,105,111,110]
abbrev aUC:List UInt8:=[100,101,102,105,110,105,116,105,111,110,85,82,76]
abbrev aUD:List UInt8:=[104,101,97,100,32,98,111,100,121,32,104,116,109,108,32,98,114]
abbrev aUE:List UInt8:=[115,101,108,101,99,116]
abbrev aUF:List UInt8:=[99,111,108]
abbrev aUG:List UInt8:=[116,101,120,116,47,104,116,109,108]
abbrev aUH:List UInt8:=[120,108,105,110,107]
abbrev aUI:List UInt8:=[101,110,99,111,100,105,110,103]
abbrev aUJ:List UInt8:=[98,111,100,121,32,104,116,109,108,32,98,114]
abbrev aUK:List UInt8:=[109,97,114,113,117,101,101]
abbrev aUL:List UInt8:=[97,114,99,114,111,108,101]
abbrev aUM:List UInt8:=[116,100,32,116,104]
abbrev aUN:List UInt8:=[97,99,116,117,97,116,101]
abbrev aUO:List UInt8:=[97,112,112,108,101,116]
abbrev aUP:List UInt8:=[111,98,106,101,99,116]
abbrev aUQ:List UInt8:=[116,121,112,101]
abbrev aUR:List UInt8:=[100,101,115,99]
abbrev aUS:List UInt8:=[110,111,102,114,97,109,101,115]
abbrev aUT:List UInt8:=[98,97,115,101,102,111,110,116]
abbrev aUU:List UInt8:=[111,108,32,117,108]
abbrev aUV:List UInt8:=[115,112,97,99,101]
abbrev aUX:List UInt8:=[104,114,101,102]
abbrev aUY:List UInt8:=[114,111,108,101]
abbrev aUZ:List UInt8:=[115,104,111,119]
theorem Ab{p:Prop}(h:p:=by omega):p:=h
theorem AH{p:Prop}(h:p:=by simp):p:=h
theorem AU{p:Prop}(h:p:=by decide):p:=h
theorem Di{p:Prop}(h:p:=by decide +kernel):p:=h
theorem Dv{p:Prop}(h:p:=by simp only; omega):p:=h
theorem D9{p:Prop}(h:p:=by simp; omega):p:=h
theorem I0{p:Prop}(h:p:=by simp[Go.Op.operands]):p:=h
theorem Ro{p:Prop}(h:p:=by simp[Go.Value.cells,Go.Value.oneCell']):p:=h
section
section
namespace Go.Am
abbrev An:=List UInt8
inductive Aa where
 |bool (b:Bool)
 |int (k:IntKind) (n:Int)
 |str (s:An)
 |ptr (p:Option (Nat×Nat))
 |CJ (cells:List Aa)
 |sl (size:Nat) (AD:List (List Aa))
 |slnil
 |E4 (size:Nat)
 |Cs (id off len size:Nat)
 |map (m:Option Nat)
 |func (fn:Fn) (first captured:List Aa)
 |nilFunc
 |iface (t:TypeId) (v:Aa)
 |nilIface
 |agg (cells:List Aa)
 |tuple (vs:List Aa)
 deriving Inhabited
mutual
def Aa.beq:Aa->Aa->Bool
 | .bool a,.bool b=>a==b
 | .int k a,.int l b=>k==l&&a==b
 | .str a,.str b=>a==b
 | .ptr a,.ptr b=>a==b
 | .CJ a,.CJ b=>Aa.RV a b
 | .sl n a,.sl m b=>n==m&&Aa.RY a b
 | .slnil,.slnil=>true
 | .E4 a,.E4 b=>a==b
 | .Cs a b c d,.Cs a' b' c' e=>a==a'&&b==b'&&c==c'&&d==e
 | .map a,.map b=>a==b
 | .func f a b,.func f' a' b'=>f==f'&&Aa.RV a a'&&Aa.RV b b'
 | .nilFunc,.nilFunc=>true
 | .iface t a,.iface t' a'=>t==t'&&Aa.beq a a'
 | .nilIface,.nilIface=>true
 | .agg a,.agg b=>Aa.RV a b
 | .tuple a,.tuple b=>Aa.RV a b
 |_,_=>false
def Aa.RV:List Aa->List Aa->Bool
 |[],[]=>true
 |a::x,b::y=>Aa.beq a b&&Aa.RV x y
 |_,_=>false
def Aa.RY:List (List Aa)->List (List Aa)->Bool
 |[],[]=>true
 |a::x,b::y=>Aa.RV a b&&Aa.RY x y
 |_,_=>false
end
def Aa.cells:Aa->List Aa
 | .agg cs=>cs
 | .tuple _=>[]
 |v=>[v]
inductive Du where
 |cells (cs:List Aa)
 |map (es:List (Aa×Aa))
 |CF
 deriving Inhabited
abbrev Ah:=List Du
inductive lQ where
 |copy (size:Nat)
 |clear (size:Nat) (zero:List Aa)
 |ey (size:Nat) (lo hi:Bool)
 |qR (size:Nat)
 |aFg (t:TypeId)
 |oe (zero:Aa) (ok:Bool)
 |Tx (zero:Aa)
 |qS (zero:Aa)
 |Pk
 |V_
 |og
 |Rh (g:Ah->List Aa->Option (Ah×Aa))
def lQ.aFh:lQ->Bool
 | .qR _| .clear _ _| .Pk| .V_=>true
 |_=>false
inductive Et where
 |undef
 |skip
 |val (v:Aa)
 |O5 (b:Bool)
 |Bt (v:Aa)
 |box (ver:Nat) (cells:List Aa) (Bt:List Nat)
 |Fl (s off:Nat)
 deriving Inhabited
abbrev BV:=List Et
def BV.at(U:BV)(s:Nat):Et:=U.getD s .undef
def Et.Hr:Et->Option Aa
 | .val v| .Bt v=>some v
 | .O5 b=>some (.bool b)
 |_=>none
inductive FK where
 |b|i|s
 deriving DecidableEq,Inhabited
inductive NK where
 |sl|fn|mp
 deriving DecidableEq,Inhabited
inductive RZ where
 |int (op:BinOp)
 |str (op:BinOp)
 |beq (neg:Bool)
 |geq (neg:Bool) (ks:List FK)
 |peq (neg:Bool)
 |Gd (neg:Bool) (k:NK)
 |un (op:UnOp)
 |conv(k:IntKind)
 |pick
 |part (off:Nat) (n:Option Nat)
 |aBH (len size:Nat) (n:Option Nat)
 |Zr
 |Ll (off:Nat)
 |Fu (size:Nat)
 |Uq (len size:Nat)
 |len (isStr:Bool)
 |append (size bytes:Nat)
 |KK (size:Nat) (isStr lo hi:Bool)
 |ext (i:Nat)
 |JK
 |C8 (size:Nat)
 |E4 (size:Nat)
 |Cn (zero:List Aa) (places:List (Nat×Nat))
 |LI (isMax:Bool)
 |WK
 |s2b
 |i2s
 deriving Inhabited
def Pl:Value->Option Aa
 | .bool b=>some (.bool b)
 | .int k n=>some (.int k n)
 | .string s=>some (.str s.data.toList)
 | .pointer none=>some (.ptr none)
 | .slice none 0 0=>some .slnil
 | .map none=>some (.map none)
 | .func fn f c=>if f.size=0/\c.size=0 then some (.func fn [] []) else none
 | .nilFunc=>some .nilFunc
 | .nilIface=>some .nilIface
 |_=>none
def Mc:List Value->Option (List Aa)
 |[]=>some []
 |v::vs=>match Pl v,Mc vs with
  |some a,some as=>some (a::as)
  |_,_=>none
def La:Value->Option Aa
 | .agg cs=>(Mc cs.toList).map .agg
 |v=>Pl v
def Qd:Sem Value->Option Value
 | .pure v=>some v
 |_=>none
def AS:Nat:=140737488355328
def wC(op:BinOp)(k:IntKind)(a:Int)(l:IntKind)(b:Int):Option Aa:=
 (Qd (binOp op 0 (.int k a) (.int l b))).bind λv=>match v with
  | .int k n=>some (.int k n)
  | .bool b=>some (.bool b)
  |_=>none
def lR(op:BinOp)(a b:An):Option Aa:=
 match op with
 | .add=>if a.length+b.length<=9223372036854775807 then some (.str (a++b)) else none
 | .eql=>some (.bool (a==b))
 | .neq=>some (.bool (!(a==b)))
 | .lss=>some (.bool (Op.bytesLess a b))
 | .leq=>some (.bool (Op.bytesLess a b||a==b))
 | .gtr=>some (.bool (!(Op.bytesLess a b||a==b)))
 | .geq=>some (.bool (!(Op.bytesLess a b)))
 |_=>none
def LJ:FK->Aa->Aa->Option Bool
 | .b,.bool a,.bool b=>some (a==b)
 | .i,.int k a,.int l b=>if k=l then some (a==b) else none
 | .s,.str a,.str b=>some (a==b)
 |_,_,_=>none
def Eb:List FK->List Aa->List Aa->Option Bool
 |[],[],[]=>some true
 |k::ks,a::x,b::y=>match LJ k a b,Eb ks x y with
  |some e,some es=>some (e&&es)
  |_,_=>none
 |_,_,_=>none
def wD:Aa->Aa->Option Bool
 | .ptr none,.ptr b=>some b.isNone
 | .ptr (some _),.ptr none=>some false
 | .ptr (some a),.ptr (some b)=>if a=b then some true else none
 | .ptr none,.CJ _=>some false
 | .CJ _,.ptr none=>some false
 |_,_=>none
def wE:NK->Aa->Aa->Option Bool
 | .sl,.slnil,.slnil=>some true
 | .sl,.slnil,.sl _ _=>some false
 | .sl,.sl _ _,.slnil=>some false
 | .sl,.slnil,.E4 _=>some false
 | .sl,.E4 _,.slnil=>some false
 | .sl,.slnil,.Cs _ _ _ _=>some false
 | .sl,.Cs _ _ _ _,.slnil=>some false
 | .fn,.nilFunc,.nilFunc=>some true
 | .fn,.nilFunc,.func _ _ _=>some false
 | .fn,.func _ _ _,.nilFunc=>some false
 | .mp,.map none,.map b=>some b.isNone
 | .mp,.map (some _),.map none=>some false
 |_,_,_=>none
def Fv(cs:List Aa)(off:Nat):Option Nat->Option Aa
 |none=>cs[off]?
 |some n=>if off+n<=cs.length then some (.agg ((cs.drop off).take n)) else none
def Mi(n:Int)(len:Nat):Option Nat:=if 0<=n/\n<len then some n.toNat else none
def E6(n:Int)(top:Nat):Option Nat:=if 0<=n/\n<=top then some n.toNat else none
def D3(lo hi:Bool)(len:Nat)(as:List Aa):Option (Nat×Nat):=
 match lo,hi with
 |false,false=>match as with
  |[]=>some (0,len)
  |_=>none
 |false,true=>match as with
  |[.int _ h]=>(E6 h len).map λh=>(0,h)
  |_=>none
 |true,false=>match as with
  |[.int _ l]=>(E6 l len).map λl=>(l,len)
  |_=>none
 |true,true=>match as with
  |[.int _ l,.int _ h]=>(E6 h len).bind λh=>(E6 l h).map λl=>(l,h)
  |_=>none
def MW:List (List Aa)->Option An
 |[]=>some []
 |[.int .u8 n]::rs=>(MW rs).map λl=>n.toNat.toUInt8::l
 |_=>none
def Cd(s:An):List (List Aa):=s.map λb=>[.int .u8 b.toNat]
def DN(size bytes:Nat)(s:Aa)(AD:List (List Aa)):Option Aa:=
 match AD with
 |[]=>match s with
  | .slnil=>some .slnil
  | .E4 z=>if z=size then some (.E4 z) else none
  | .sl z r=>if z=size then some (.sl z r) else none
  |_=>none
 |AD=>match s with
  | .slnil=>if AD.length*bytes<=AS then some (.sl size AD) else none
  | .E4 z=>if z=size/\AD.length*bytes<=AS then some (.sl size AD) else none
  | .sl z r=>if z=size/\(r.length+AD.length)*bytes<=AS then some (.sl size (r++AD)) else none
  |_=>none
def AT(cs:List Aa):List ((Nat×Nat)×Aa)->Option (List Aa)
 |[]=>some cs
 |((off,size),v)::rest=>if 0<size/\v.cells.length=size/\off+size<=cs.length then AT (cs.take off++v.cells++cs.drop (off+size)) rest else none
def aAh(k:IntKind)(n:Int):Option Aa:=
 (Qd (Op.unary .xor (.int k n))).bind λv=>match v with
  | .int k n=>some (.int k n)
  |_=>none
def aBI:UnOp->Aa->Option Aa
 | .not,.bool b=>some (.bool (!b))
 | .neg,.int k n=>some (.int k (k.wrap (0 -n)))
 | .xor,.int k n=>aAh k n
 |_,_=>none
def WL(p:Aa)(off:Nat):Option Aa:=
 match p with
 | .CJ cs=>some (.CJ (cs.drop off))
 | .ptr (some (id,o))=>some (.ptr (some (id,o+off)))
 |_=>none
def elemOf(size:Nat)(s:Aa)(i:Int):Option Aa:=
 match s with
 | .sl z AD=>if z=size then(if 0<=i then(AD[i.toNat]?).map .CJ else none) else none
 | .Cs id off len z=>if z=size then(Mi i len).map λi=> .ptr (some (id,off+i*size)) else none
 |_=>none
def lenOf(isStr:Bool)(s:Aa):Option Aa:=
 match s with
 | .sl _ AD=>if isStr then none else some (.int .i64 AD.length)
 | .Cs _ _ n _=>if isStr then none else some (.int .i64 n)
 | .slnil=>if isStr then none else some (.int .i64 0)
 | .E4 _=>if isStr then none else some (.int .i64 0)
 | .str s=>if isStr then some (.int .i64 s.length) else none
 |_=>none
def HR(size bytes:Nat)(s x:Aa):Option Aa:=
 match x with
 | .slnil=>DN size bytes s []
 | .E4 z=>if z=size then DN size bytes s [] else none
 | .sl z AD=>if z=size then DN size bytes s AD else none
 | .str x=>if size=1 then DN size bytes s (Cd x) else none
 |_=>none
def JE(size:Nat)(isStr lo hi:Bool)(s:Aa)(as:List Aa):Option Aa:=
 match s with
 | .str s=>if isStr then(D3 lo hi s.length as).map λ(l,h)=> .str ((s.take h).drop l) else none
 | .sl z AD=>if isStr=false/\z=size then(D3 lo hi AD.length as).map λ(l,h)=> .sl z ((AD.take h).drop l) else none
 | .Cs id off n z=>if isStr=false/\z=size then(D3 lo hi n as).bind λ(l,h)=>if l<n then some (.Cs id (off+l*z) (h-l) z) else some (.sl z []) else none
 | .slnil=>if isStr then none else(D3 lo hi 0 as).map λ_=> .slnil
 |_=>none
def lS:Aa->Option Aa
 | .ptr (some p)=>some (.ptr (some p))
 | .CJ cs=>some (.CJ cs)
 | .func (.func f) a b=>some (.func (.func f) a b)
 |_=>none
def WM:Aa->Option Aa
 | .sl 1 AD=>(MW AD).map .str
 | .slnil=>some (.str [])
 |_=>none
def AB(p:RZ)(args:List Aa):Option Aa:=
 match p with
 | .int op=>match args with
  |[.int k a,.int l b]=>wC op k a l b
  |_=>none
 | .str op=>match args with
  |[.str a,.str b]=>lR op a b
  |_=>none
 | .beq neg=>match args with
  |[.bool a,.bool b]=>some (.bool ((a==b) != neg))
  |_=>none
 | .geq neg ks=>match args with
  |[.agg a,.agg b]=>(Eb ks a b).map λe=> .bool (e != neg)
  |_=>none
 | .peq neg=>match args with
  |[a,b]=>(wD a b).map λe=> .bool (e != neg)
  |_=>none
 | .Gd neg k=>match args with
  |[a,b]=>(wE k a b).map λe=> .bool (e != neg)
  |_=>none
 | .un op=>match args with
  |[v]=>aBI op v
  |_=>none
 | .conv k=>match args with
  |[.int _ n]=>some (.int k (k.wrap n))
  |_=>none
 | .i2s=>match args with
  |[.int _ n]=>some (.str (Utf8.encode n).data.toList)
  |_=>none
 | .pick=>match args with
  |[.bool c,a,b]=>some (if c then a else b)
  |_=>none
 | .part off n=>match args with
  |[.agg cs]=>Fv cs off n
  |_=>none
 | .aBH len size n=>match args with
  |[.agg cs,.int _ i]=>(Mi i len).bind λi=>Fv cs (i*size) n
  |_=>none
 | .Zr=>match args with
  |[.str s,.int _ i]=>if 0<=i then(s[i.toNat]?).map λb=> .int .u8 b.toNat else none
  |_=>none
 | .Ll off=>match args with
  |[p]=>WL p off
  |_=>none
 | .Fu size=>match args with
  |[s,.int _ i]=>elemOf size s i
  |_=>none
 | .Uq len size=>match args with
  |[p,.int _ i]=>(Mi i len).bind λi=>WL p (i*size)
  |_=>none
 | .len isStr=>match args with
  |[s]=>lenOf isStr s
  |_=>none
 | .append size bytes=>match args with
  |[s,x]=>HR size bytes s x
  |_=>none
 | .KK size isStr lo hi=>match args with
  |s::as=>JE size isStr lo hi s as
  |_=>none
 | .ext i=>match args with
  |[.tuple vs]=>vs[i]?
  |_=>none
 | .JK=>match args with
  |[v]=>lS v
  |_=>none
 | .C8 size=>if args.all (λa=>a.cells.length==size)&&decide (args.length*size<=16777216) then some (.sl size (args.map (·.cells))) else none
 | .E4 size=>if args.isEmpty then some (.E4 size) else none
 | .Cn zero places=>if places.length=args.length then(AT zero (places.zip args)).map .agg else none
 | .LI isMax=>match args with
  |[.int k a,.int l b]=>if k=l then some (.int k (if isMax then(if b>a then b else a) else(if b<a then b else a))) else none
  |_=>none
 | .WK=>match args with
  |[v]=>WM v
  |_=>none
 | .s2b=>match args with
  |[.str s]=>if s.length<=AS then some (.sl 1 (Cd s)) else none
  |_=>none
inductive DX where
 |normal
 |exit (id:Nat)
 |ret
 deriving DecidableEq,Inhabited
inductive IT where
 |ret (x:DX) (vs:List Aa)
 |fail
 |op (o:RZ) (args:List Aa) (k:Aa->IT)
 |cells (n:Nat) (v:Aa) (k:List Aa->IT)
 |Gg (c:Aa) (t e:IT)
 |load (n:Option Nat) (p:Aa) (k:Aa->IT)
 |store (n:Nat) (p v:Aa) (k:IT)
 |alloc (n:Nat) (v:Aa) (k:Aa->IT)
 |call (f:FuncId) (args:List Aa) (k:Aa->IT)
 |Jc (fn:Aa) (args:List Aa) (k:Aa->IT)
 |B7 (f:FuncId) (args:List Aa) (k:Aa->IT)
 |loop (key:Nat) (init:List Aa) (body:List Aa->IT) (k:DX->List Aa->IT)
 |Oc (key:Nat) (t:IT) (k:DX->List Aa->IT)
 |same (a b:Aa) (k:IT)
 |Pm (k:Aa->IT)
 |KE (m key v:Aa) (k:IT)
 |Mj (zero:Aa) (ok:Bool) (m key:Aa) (k:Aa->IT)
 |make (size bytes:Nat) (zero:List Aa) (len cap:Aa) (k:Aa->IT)
 |Lm (size bytes:Nat) (s x:Aa) (k:Aa->IT)
 |Ff (s:Aa) (k:Aa->IT)
 |Ph (v:Aa) (k:Aa->IT)
 |Pn (off:Nat) (p:Aa) (k:IT)
 |JL (size bytes:Nat) (s x:Aa) (k:Aa->IT)
 |GD (size bytes:Nat) (s x:Aa) (k:Aa->IT)
 |mem (o:lQ) (args:List Aa) (k:Aa->IT)
 |wF (f:FuncId) (args:List Aa) (k:Aa->IT)
 deriving Inhabited
def Aa.MQ:Aa->Bool
 | .bool _| .int _ _| .str _=>true
 |_=>false
def A7(h:Ah)(n:Option Nat):Aa->Option Aa
 | .CJ cs=>Fv cs 0 n
 | .ptr (some (id,off))=>match h[id]? with
  |some (.cells cs)=>Fv cs off n
  |_=>none
 |_=>none
def Co(h:Ah)(n:Nat)(p v:Aa):Option Ah:=
 match p with
 | .ptr (some (id,off))=>match h[id]? with
  |some (.cells cs)=>if v.cells.length=n/\off+n<=cs.length then some (h.set id (.cells (cs.take off++v.cells++cs.drop (off+n)))) else none
  |_=>none
 |_=>none
def WN(h:Ah)(n:Nat)(v:Aa):Option (Ah×Aa):=
 if v.cells.length=n then some (h++[.cells v.cells],.ptr (some (h.length,0))) else none
def WO(s:An):List (Aa×Aa)->Option (Option Aa)
 |[]=>some none
 |(.str t,v)::es=>if s=t then some (some v) else WO s es
 |_=>none
def O6(s:An)(v:Aa):List (Aa×Aa)->Option (List (Aa×Aa))
 |[]=>some [(.str s,v)]
 |(.str t,v')::es=>if s=t then some ((.str s,v)::es) else(O6 s v es).map λes=>(.str t,v')::es
 |_=>none
def Ur(h:Ah)(m k v:Aa):Option Ah:=
 match m,k with
 | .map (some id),.str s=>match h[id]? with
  |some (.map es)=>(O6 s v es).map λes=>h.set id (.map es)
  |_=>none
 |_,_=>none
def WQ(h:Ah)(m k:Aa):Option (Option Aa):=
 match m,k with
 | .map none,.str _=>some none
 | .map (some id),.str s=>match h[id]? with
  |some (.map es)=>WO s es
  |_=>none
 |_,_=>none
def Us(h:Ah)(zero:Aa)(ok:Bool)(m k:Aa):Option Aa:=
 (WQ h m k).map λr=>match r with
  |some v=>if ok then .tuple [v,.bool true] else v
  |none=>if ok then .tuple [zero,.bool false] else zero
def R2(h:Ah)(size bytes:Nat)(zero:List Aa):Aa->Aa->Option (Ah×Aa)
 | .int .i64 n,.int .i64 c=>if 0<=n/\n<=c/\c.toNat*bytes<=AS/\zero.length=size then
  some (h++[.cells (List.replicate c.toNat zero).flatten],.Cs h.length 0 n.toNat size) else none
 |_,_=>none
def Od(size:Nat):Aa->Bool
 | .slnil=>true
 | .E4 z=>z==size
 | .sl z []=>z==size
 |_=>false
def Jj(h:Ah)(size bytes:Nat)(s:Aa):Aa->Option (Ah×Aa)
 | .sl z AD=>if Od size s then(match AD with
   |[]=>some (h,s)
   |AD=>if z=size/\AD.length*bytes<=AS then some (h++[.cells AD.flatten],.Cs h.length 0 AD.length size) else none)
  else none
 | .slnil=>if Od size s then some (h,s) else none
 | .E4 z=>if Od size s&&z==size then some (h,s) else none
 |_=>none
def IV(h:Ah):Aa->Option (Ah×Aa)
 | .str s=>if s.length<=AS then some (h++[.cells (s.map λb=> .int .u8 b.toNat)],.Cs h.length 0 s.length 1) else none
 |_=>none
def Cw(cs:List Aa)(z:Nat):Nat->Nat->List (List Aa)
 |_,0=>[]
 |off,n+1=>(cs.drop off).take z::Cw cs z (off+z) n
def Kd(h:Ah):Aa->Option (Ah×Aa)
 | .Cs id off n z=>match h[id]? with
  |some (.cells cs)=>if off+n*z<=cs.length then some (h.set id .CF,.sl z (Cw cs z off n)) else none
  |_=>none
 |v=>some (h,v)
def KR(h:Ah)(off:Nat)(p:Aa):Option Ah:=
 match p with
 | .ptr none=>some h
 | .ptr (some (id,o))=>match h[id]? with
  |some (.cells cs)=>match cs[o+off]? with
   |some v=>(Kd h v).bind λ(h',v')=>match h'[id]? with
    |some (.cells Ha)=>some (h'.set id (.cells (Ha.set (o+off) v')))
    |_=>none
   |none=>none
  |_=>none
 |_=>none
def Gp(h:Ah)(size:Nat):Aa->Option (List (List Aa))
 | .slnil=>some []
 | .E4 z=>if z=size then some [] else none
 | .sl z AD=>if z=size then some AD else none
 | .str s=>if size=1 then some (Cd s) else none
 | .Cs id off n z=>if z=size then match h[id]? with
   |some (.cells cs)=>if off+n*z<=cs.length then some (Cw cs z off n) else none
   |_=>none
  else none
 |_=>none
def Fw(h:Ah)(size bytes:Nat)(s x:Aa):Option (Ah×Aa):=
 match Gp h size x with
 |none=>none
 |some []=>match s with
  | .slnil=>some (h,s)
  | .E4 z=>if z=size then some (h,s) else none
  | .Cs _ _ _ z=>if z=size then some (h,s) else none
  |_=>none
 |some AD=>match s with
  | .slnil=>if AD.length*bytes<=AS then some (h++[.cells AD.flatten],.Cs h.length 0 AD.length size) else none
  | .E4 z=>if z=size/\AD.length*bytes<=AS then some (h++[.cells AD.flatten],.Cs h.length 0 AD.length size) else none
  | .Cs id off n z=>match h[id]? with
   |some (.cells cs)=>if z=size then
     (if off+(n+AD.length)*z<=cs.length then some (h.set id (.cells (cs.take (off+n*z)++AD.flatten++cs.drop (off+(n+AD.length)*z))),.Cs id off (n+AD.length) z)
     else if off=0/\n*z<=cs.length/\(n+AD.length)*bytes<=AS then some (h.set id .CF++[.cells (cs.take (n*z)++AD.flatten)],.Cs h.length 0 (n+AD.length) z) else none)
    else none
   |_=>none
  |_=>none
def QS(h:Ah)(size bytes:Nat)(s x:Aa):Option Aa:=(Gp h size x).bind (DN size bytes s)
def wG(h:Ah)(size:Nat)(d x:Aa):Option (Ah×Aa):=
 match Gp h size x with
 |none=>none
 |some AD=>match d with
  | .slnil=>if AD.length=0 then some (h,.int .i64 0) else none
  | .Cs id off n z=>match h[id]? with
   |some (.cells cs)=>if z=size/\AD.length<=n/\off+n*z<=cs.length then some (h.set id (.cells (cs.take off++AD.flatten++cs.drop (off+AD.length*z))),.int .i64 AD.length) else none
   |_=>none
  |_=>none
def WR(h:Ah)(size:Nat)(zero:List Aa):Aa->Option (Ah×Aa)
 | .slnil=>some (h,.bool true)
 | .Cs id off n z=>match h[id]? with
  |some (.cells cs)=>if z=size/\zero.length=size/\off+n*z<=cs.length then some (h.set id (.cells (cs.take off++(List.replicate n zero).flatten++cs.drop (off+n*z))),.bool true) else none
  |_=>none
 |_=>none
def lT(h:Ah)(size:Nat)(lo hi:Bool)(s:Aa)(as:List Aa):Option (Ah×Aa):=
 match s with
 | .Cs id off n z=>match h[id]? with
  |some (.cells cs)=>if z=size/\hi=true/\off<=cs.length then(D3 lo hi ((cs.length-off)/z) as).bind λ(l,r)=>if l<(cs.length-off)/z then some (h,.Cs id (off+l*z) (r-l) z) else none else none
  |_=>none
 |_=>none
def WS(size:Nat):List Aa->Bool
 |[s,.int _ l,.int _ r,.int _ m]=>match s with
  | .Cs _ _ n z=>z=size&&decide (0<=l)&&decide (l<=r)&&decide (r<=m)&&decide (m<=n)
  | .sl z AD=>z=size&&decide (0<=l)&&decide (l<=r)&&decide (r<=m)&&decide (m<=AD.length)
  |_=>false
 |_=>false
def LK(k:Int):List (Aa×Aa)->Nat->Option (Option (Nat×Aa))
 |[],_=>some none
 |(.int .i64 t,v)::es,i=>if k=t then some (some (i,v)) else LK k es (i+1)
 |_,_=>none
def qT(zero:Aa)(ok:Bool):Option (Nat×Aa)->Aa
 |some (_,v)=>if ok then .tuple [v,.bool true] else v
 |none=>if ok then .tuple [zero,.bool false] else zero
def wH(h:Ah)(zero:Aa)(ok:Bool)(m k:Aa):Option (Ah×Aa):=
 match m,k with
 | .map none,.int .i64 _=>some (h,qT zero ok none)
 | .map (some id),.int .i64 n=>match h[id]? with
  |some (.map es)=>(LK n es 0).map λr=>(h,qT zero ok r)
  |_=>none
 |_,_=>none
def VS(h:Ah)(zero m k:Aa):Option (Ah×Aa):=
 match m,k with
 | .map (some id),.int .i64 n=>match h[id]? with
  |some (.map es)=>(LK n es 0).map λr=>match r with
   |some (i,v)=>(h,.tuple [v,.int .i64 i])
   |none=>(h.set id (.map (es++[(k,zero)])),.tuple [zero,.int .i64 es.length])
  |_=>none
 |_,_=>none
def WT(k:An):List (Aa×Aa)->Nat->Option (Option (Nat×Aa))
 |[],_=>some none
 |(.str t,v)::es,i=>if k=t then some (some (i,v)) else WT k es (i+1)
 |_,_=>none
def cO(h:Ah)(zero m k:Aa):Option (Ah×Aa):=
 match m,k with
 | .map (some id),.str n=>match h[id]? with
  |some (.map es)=>(WT n es 0).map λr=>match r with
   |some (i,v)=>(h,.tuple [v,.int .i64 i])
   |none=>(h.set id (.map (es++[(k,zero)])),.tuple [zero,.int .i64 es.length])
  |_=>none
 |_,_=>none
def VT(h:Ah)(m i v:Aa):Option (Ah×Aa):=
 match m,i with
 | .map (some id),.int .i64 n=>match h[id]? with
  |some (.map es)=>if 0<=n then match es[n.toNat]? with
   |some (k,_)=>some (h.set id (.map (es.set n.toNat (k,v))),.bool true)
   |none=>none
   else none
  |_=>none
 |_,_=>none
def oh(h:Ah)(m k v:Aa):Option (Ah×Aa):=
 match m,k with
 | .map (some id),.int .i64 n=>match h[id]? with
  |some (.map es)=>match LK n es 0 with
   |some none=>some (h.set id (.map (es++[(.int .i64 n,v)])),.bool true)
   |_=>none
  |_=>none
 |_,_=>none
def Qe(h:Ah):List Aa->Option (Ah×Aa)
 |[.slnil,.int .i64 i,.sl 1 [[.int .i64 x]]]=>if i=0 then some (h++[.cells [.int .i64 x]],.Cs h.length 0 1 1) else none
 |[.Cs id 0 n 1,.int .i64 i,.sl 1 [[.int .i64 x]]]=>match h[id]? with
  |some (.cells cs)=>if 0<=i/\i.toNat<=n/\n<=cs.length/\(n+1)*8<=AS then some (h.set id .CF++[.cells (cs.take i.toNat++[.int .i64 x]++(cs.take n).drop i.toNat)],.Cs h.length 0 (n+1) 1) else none
  |_=>none
 |_=>none
def E7(o:lQ)(h:Ah)(args:List Aa):Option (Ah×Aa):=
 match o with
 | .copy size=>match args with
  |[d,x]=>wG h size d x
  |_=>none
 | .clear size zero=>match args with
  |[s]=>WR h size zero s
  |_=>none
 | .ey size lo hi=>match args with
  |s::as=>lT h size lo hi s as
  |_=>none
 | .qR size=>if WS size args then some (h,.bool true) else none
 | .aFg t=>match args with
  |[v]=>some (h,.iface t v)
  |_=>none
 | .oe zero ok=>match args with
  |[m,k]=>wH h zero ok m k
  |_=>none
 | .Tx zero=>match args with
  |[m,k]=>VS h zero m k
  |_=>none
 | .qS zero=>match args with
  |[m,k]=>cO h zero m k
  |_=>none
 | .Pk=>match args with
  |[m,i,v]=>VT h m i v
  |_=>none
 | .V_=>match args with
  |[m,k,v]=>oh h m k v
  |_=>none
 | .og=>Qe h args
 | .Rh g=>g h args
def EF(f:FuncId):FuncId:=if f<=99999 then f else f%100000
def DD:Aa->List Aa->Option (FuncId×List Aa)
 | .func (.func f) first captured,args=>if f<=99999 then some (f,first++args++captured) else none
 |_,_=>none
abbrev Ke:=DX×List Aa×Ah
def IT.step(fn:FuncId->List Aa->IT)(rec:IT->Ah->Option Ke):IT->Ah->Option Ke
 | .ret x vs,h=>some (x,vs,h)
 | .fail,_=>none
 | .op o args k,h=>match AB o args with
  |some v=>IT.step fn rec (k v) h
  |none=>none
 | .cells n v k,h=>if v.cells.length=n then IT.step fn rec (k v.cells) h else none
 | .Gg c t e,h=>match c with
  | .bool true=>IT.step fn rec t h
  | .bool false=>IT.step fn rec e h
  |_=>none
 | .load n p k,h=>match A7 h n p with
  |some v=>IT.step fn rec (k v) h
  |none=>none
 | .store n p v k,h=>match Co h n p v with
  |some h'=>IT.step fn rec k h'
  |none=>none
 | .alloc n v k,h=>match WN h n v with
  |some (h',p)=>IT.step fn rec (k p) h'
  |none=>none
 | .call f args k,h=>match rec (fn f args) h with
  |some (.ret,[r],h')=>IT.step fn rec (k r) h'
  |_=>none
 | .Jc g args k,h=>match DD g args with
  |some (f,args)=>match rec (fn f args) h with
   |some (.ret,[r],h')=>IT.step fn rec (k r) h'
   |_=>none
  |none=>none
 | .B7 f args k,h=>if args.all Aa.MQ then match rec (fn f args) [] with
   |some (.ret,[r],_)=>if r.MQ then IT.step fn rec (k r) h else none
   |_=>none
  else none
 | .loop key init body k,h=>match IT.step fn rec (body init) h with
  |some (.normal,vs,h')=>rec (.loop key vs body k) h'
  |some (x,vs,h')=>IT.step fn rec (k x vs) h'
  |none=>none
 | .Oc _ t k,h=>match IT.step fn rec t h with
  |some (x,vs,h')=>IT.step fn rec (k x vs) h'
  |none=>none
 | .same a b k,h=>if Aa.beq a b then IT.step fn rec k h else none
 | .Pm k,h=>IT.step fn rec (k (.map (some h.length))) (h++[.map []])
 | .KE m key v k,h=>match Ur h m key v with
  |some h'=>IT.step fn rec k h'
  |none=>none
 | .Mj zero ok m key k,h=>match Us h zero ok m key with
  |some v=>IT.step fn rec (k v) h
  |none=>none
 | .make size bytes zero len cap k,h=>match R2 h size bytes zero len cap with
  |some (h',v)=>IT.step fn rec (k v) h'
  |none=>none
 | .Lm size bytes s x k,h=>match Jj h size bytes s x with
  |some (h',v)=>IT.step fn rec (k v) h'
  |none=>none
 | .Ff s k,h=>match IV h s with
  |some (h',v)=>IT.step fn rec (k v) h'
  |none=>none
 | .Ph v k,h=>match Kd h v with
  |some (h',v')=>IT.step fn rec (k v') h'
  |none=>none
 | .Pn off p k,h=>match KR h off p with
  |some h'=>IT.step fn rec k h'
  |none=>none
 | .JL size bytes s x k,h=>match Fw h size bytes s x with
  |some (h',v)=>IT.step fn rec (k v) h'
  |none=>none
 | .GD size bytes s x k,h=>match QS h size bytes s x with
  |some v=>IT.step fn rec (k v) h
  |none=>none
 | .mem o args k,h=>match E7 o h args with
  |some (h',v)=>IT.step fn rec (k v) h'
  |none=>none
 | .wF f args k,h=>match rec (fn f args) [] with
  |some (.ret,[r],_)=>if r.MQ then IT.step fn rec (k r) h else none
  |_=>none
def IT.run(fn:FuncId->List Aa->IT):Nat->IT->Ah->Option Ke
 |0=>λ_ _=>none
 |n+1=>IT.step fn (IT.run fn n)
end Go.Am
end
section
namespace Go.Am
inductive Sh where
 |val
 |Bt
 |box (n:Nat) (Bt:List Nat)
 deriving Inhabited
inductive wI where
 |Po|heap
 deriving DecidableEq,Inhabited
structure F8 where
 P:Program
 aBJ:FuncId->Nat->List (Nat×Sh)
 aAi:FuncId->Nat->Option (List (Nat×Sh))
 aAj:FuncId->Nat->Option (List (Nat×Sh))
 kind:FuncId->Nat->wI
 Jk:FuncId->Bool
 aAk:FuncId->Bool
 ez:FuncId->Nat->Bool
 WU:FuncId->Nat->Bool
 oj:FuncId->Bool
 om:FuncId->List (Nat×Nat)
 Hb:Nat->Option (List Aa)
 aBK:FuncId->Option (List Aa->IT)
 alt:FuncId->FuncId->FuncId
 MR:FuncId->Bool
inductive EN where
 |pure (ws:List (Nat×Et))
 |op (p:RZ) (args:List Aa) (dst:Option Nat) (Bt:Bool) (DS:Option (Nat×Aa))
 |box (n:Nat) (v:Aa) (dst:Nat)
 |closure (fn:Fn) (first captured:List Aa) (froze:List (Nat×List Aa)) (dst:Nat)
 |Nf (s off n:Nat) (v:Aa) (Bt:Bool) (DS:Option (Nat×Aa)) (ver:Nat) (cells:List Aa) (owned:List Nat)
 |load (n:Option Nat) (p:Aa) (dst:Option Nat)
 |store (n:Nat) (p v:Aa)
 |alloc (n:Nat) (v:Aa) (dst:Option Nat)
 |call (f:FuncId) (args:List Aa) (dst:Option Nat)
 |Jc (g:Aa) (args:List Aa) (dst:Option Nat)
 |B7 (f:FuncId) (args:List Aa) (dst:Option Nat)
 |Pm (dst:Option Nat)
 |KE (m k v:Aa)
 |Mj (zero:Aa) (ok:Bool) (m k:Aa) (dst:Option Nat)
 |make (size bytes:Nat) (zero:List Aa) (len cap:Aa) (dst:Option Nat)
 |Lm (size bytes:Nat) (s x:Aa) (dst:Option Nat) (DS:Option (Nat×Aa))
 |JL (size bytes:Nat) (s x:Aa) (dst:Option Nat)
 |GD (size bytes:Nat) (s x:Aa) (dst:Option Nat) (DS:Option (Nat×Aa))
 |Ff (s:Aa) (dst:Option Nat)
 |WK (v:Aa) (dst:Option Nat)
 |mem (o:lQ) (args:List Aa) (dst:Option Nat)
def B4(P:Program)(t:TypeId):Option Nat:=(P.info? t).map (·.size)
def Ki(P:Program)(t:TypeId):Option Nat:=(P.info? t).map (·.bytes)
def Fq(P:Program)(t:TypeId):Option (Option Nat):=
 match P.underlying t with
 |some (.struct _)|some (.array _ _)=>(B4 P t).map some
 |some _=>some none
 |none=>none
def Hc(P:Program)(t:TypeId):Option Aa:=((P.info? t).bind (·.zero)).bind La
def WV(rec:TypeId->Option (List FK)):List Field->Nat->Option (List FK)
 |[],_=>some []
 |f::fs,off=>if f.name≠ "_"/\f.offset=off then match rec f.type with
   |some ks=>(WV rec fs (off+ks.length)).map (ks++·)
   |none=>none
  else none
def Pp(P:Program):Nat->TypeId->Option (List FK)
 |0,_=>none
 |d+1,t=>
  let one (k:FK):Option (List FK):=if B4 P t=some 1 then some [k] else none
  match P.underlying t with
  |some .bool=>one .b
  |some (.int _)=>one .i
  |some .string=>one .s
  |some (.struct fs)=>match WV (Pp P d) fs.toList 0 with
   |some ks=>if B4 P t=some ks.length/\P.stoodInHeld t=false then some ks else none
   |none=>none
  |_=>none
def Iy(P:Program)(s:TypeId)(f:Nat):Option (Nat×Option Nat):=
 match P.underlying s with
 |some (.struct fs)=>match fs[f]? with
  |some fd=>match B4 P fd.type,Fq P fd.type with
   |some (_+1),some sh=>some (fd.offset,sh)
   |_,_=>none
  |none=>none
 |_=>none
def Eg(C:F8)(U:BV):Operand->Option Et
 | .tmp t=>some (U.at t)
 | .const (.bool b)=>some (.O5 b)
 | .const (.slice none 0 0)=>some (.Bt .slnil)
 | .const v=>(La v).map .val
 | .global g=>(C.Hb g).map λcs=> .val (.CJ cs)
 | .func f=>some (.val (.func (.func f) [] []))
def E8(C:F8)(U:BV)(x:Operand):Option Aa:=(Eg C U x).bind Et.Hr
def BC(C:F8)(U:BV):List Operand->Option (List Aa)
 |[]=>some []
 |x::xs=>match E8 C U x,BC C U xs with
  |some v,some vs=>some (v::vs)
  |_,_=>none
def oq(ops:List Oper)(d:Nat):Bool:=
 ops.any λo=>match o.op with
  | .call c=>(match c.callee with| .builtin .append=>true|_=>false)&&(match(c.args[0]?:Option Operand) with|some (.tmp t)=>t==d|_=>false)
  |_=>false
def Iz:Et->Option Et
 | .val v=>some (.val v)
 | .O5 b=>some (.O5 b)
 | .Bt v=>some (.val v)
 | .Fl s o=>some (.Fl s o)
 |_=>none
def R4(x:Operand)(v:Aa):List (Nat×Et):=
 match x with
 | .tmp s=>[(s,.val v)]
 |_=>[]
def KS(C:F8)(U:BV)(x:Operand)(d:Nat)(take:Bool):Option EN:=
 match x,Eg C U x with
 | .tmp s,some (.box _ _ _)=>some (.pure [(d,.Fl s 0)])
 | .const _,some sl=>some (.pure [(d,sl)])
 |x,some (.Bt v)=>if take then some (.pure (R4 x v++[(d,.Bt v)])) else(Iz (.Bt v)).map λs=> .pure [(d,s)]
 |_,some s=>(Iz s).map λs=> .pure [(d,s)]
 |_,none=>none
def WW(cs:List Aa):List Nat:=(List.range cs.length).filter λi=>match cs.getD i .nilIface with| .slnil=>true|_=>false
def Ng(U:BV)(ds:List Nat):Bool:=U.all λs=>match s with| .Fl s _=> !ds.contains s|_=>true
def BV.drop(U:BV)(ds:List Nat):BV:=match ds with|[]=>U|ds=>U.map λs=>match s with| .Fl s o=>if ds.contains s then .undef else .Fl s o|s=>s
def Ut(C:F8)(fid:FuncId)(t:TypeId)(v:Aa)(d:Nat):Option EN:=
 match B4 C.P t with
 |none=>none
 |some n=>if n=0 then none else match C.kind fid d with
  | .Po=>some (.box n v d)
  | .heap=>some (.alloc n v (some d))
inductive aBL where
 |Po (s off ver:Nat) (cells:List Aa) (Bt:List Nat)
 |ptr (p:Aa)
def Gq(C:F8)(U:BV)(x:Operand):Option aBL:=
 match x,Eg C U x with
 | .tmp s,some (.box ver cs ow)=>some (.Po s 0 ver cs ow)
 |_,some (.Fl s o)=>match U.at s with
  | .box ver cs ow=>some (.Po s o ver cs ow)
  |_=>none
 |_,some s=>s.Hr.map .ptr
 |_,none=>none
def Dq(U:BV):Operand->Option (Nat×Aa)
 | .tmp s=>match U.at s with
  | .Bt v=>some (s,v)
  |_=>none
 |_=>none
def Ln(C:F8)(U:BV)(x:Operand):Bool:=match Eg C U x with|some (.Bt _)=>true|_=>false
def LL(C:F8)(U:BV)(t:TypeId)(x:Operand)(d:Nat)(take:Bool):Option EN:=
 match Fq C.P t,Gq C U x with
 |some n,some (.ptr p)=>some (.load n p (some d))
 |some none,some (.Po s o ver cs ow)=>
  if o<cs.length then
   let v:=cs.getD o .nilIface
   if ow.contains o&& !(ow.erase o).contains o&&take then some (.pure [(s,.box (ver+1) cs (ow.erase o)),(d,.Bt v)])
   else some (.pure [(d,.val v)])
  else none
 |some (some n),some (.Po _ o _ cs _)=>if o+n<=cs.length then some (.pure [(d,.val (.agg ((cs.drop o).take n)))]) else none
 |_,_=>none
def JF(C:F8)(U:BV)(t:TypeId)(x y:Operand):Option EN:=
 match B4 C.P t,Fq C.P t,Gq C U x,E8 C U y with
 |some (n+1),_,some (.ptr p),some v=>some (.store (n+1) p v)
 |some (n+1),some sh,some (.Po s o ver cs ow),some v=>
  if o+(n+1)<=cs.length then
   let Bt:=sh.isNone&&Ln C U y
   some (.Nf s o (n+1) v Bt (if Bt then Dq U y else none) ver cs ow)
  else none
 |_,_,_,_=>none
def Tz(P:Program)(t:TypeId)(neg:Bool)(u:TypeDesc):Option RZ:=
 match u with
 | .bool=>some (.beq neg)
 | .struct _=>if P.eqGuardType P.depth t=false then(Pp P 20 t).map (.geq neg) else none
 | .pointer e=>if(B4 P e).getD 0=0 then none else some (.peq neg)
 | .slice _=>some (.Gd neg .sl)
 | .func _ _ _=>some (.Gd neg .fn)
 | .map _ _=>some (.Gd neg .mp)
 |_=>none
def Qf(P:Program)(op:BinOp)(t:TypeId):Option RZ:=
 match P.underlying t with
 |some (.int _)=>some (.int op)
 |some .string=>some (.str op)
 |some u=>match op with
  | .eql=>Tz P t false u
  | .neq=>Tz P t true u
  |_=>none
 |none=>none
def TA(p:RZ)(dst:Option Nat):Option (List Aa)->Option EN
 |some args=>some (.op p args dst false none)
 |none=>none
def Kj(P:Program)(t:TypeId):List (Nat×Operand)->Option (List (Nat×Nat))
 |[]=>some []
 |(i,_)::rest=>match P.underlying t with
  |some (.struct fs)=>match fs[i]? with
   |some f=>match B4 P f.type,Kj P t rest with
    |some n,some r=>some ((f.offset,n)::r)
    |_,_=>none
   |none=>none
  |some (.array len e)=>if i<len then match B4 P e,Kj P t rest with
    |some n,some r=>some ((i*n,n)::r)
    |_,_=>none
   else none
  |_=>none
def Mk(P:Program)(t:TypeId):Bool:=
 match P.info? t with
 |some i=>match i.zero with
  |some z=>z.cells.size==i.size
  |none=>false
 |none=>false
def VU(P:Program)(t:TypeId):Bool:=
 match P.underlying t with
 |some (.struct fs)=>fs.toList.all λf=>(B4 P f.type).isSome
 |some (.array _ e)=>(B4 P e).isSome
 |_=>false
def TB(o:lQ)(dst:Option Nat):Option (List Aa)->Option EN
 |some args=>some (.mem o args dst)
 |none=>none
def Ri(C:F8)(fid:FuncId)(U:BV)(c:Call)(dst:Option Nat):Option EN:=
 match c.callee with
 | .builtin .len=>match c.argTypes[0]? with
  |some t=>match C.P.underlying t with
   |some .string=>TA (.len true) dst (BC C U c.args.toList)
   |some (.slice _)=>TA (.len false) dst (BC C U c.args.toList)
   |_=>none
  |none=>none
 | .builtin .append=>match c.argTypes[0]?,c.argTypes[1]?,c.args.toList with
  |some t,some t',[s,x]=>match C.P.underlying t,C.P.underlying t' with
   |some (.slice e),some (.slice _)|some (.slice e),some .string=>match B4 C.P e,Ki C.P e with
    |some (n+1),some (b+1)=>if Mk C.P e then match BC C U [s,x] with
      |some [v,u]=>if Ln C U s then
        (if(dst.map (C.ez fid)).getD false then some (.Lm (n+1) (b+1) v u dst (Dq U s))
        else if(dst.map (C.WU fid)).getD false then some (.GD (n+1) (b+1) v u dst (Dq U s))
        else some (.op (.append (n+1) (b+1)) [v,u] dst true (Dq U s)))
       else if(dst.map (C.ez fid)).getD false then some (.JL (n+1) (b+1) v u dst) else none
      |_=>none
     else none
    |_,_=>none
   |_,_=>none
  |_,_,_=>none
 | .builtin .copy=>match c.argTypes[0]?,c.argTypes[1]?,c.args.toList with
  |some t,some t',[s,x]=>match C.P.underlying t,C.P.underlying t' with
   |some (.slice e),some (.slice _)|some (.slice e),some .string=>match B4 C.P e with
    |some (n+1)=>TB (.copy (n+1)) dst (BC C U [s,x])
    |_=>none
   |_,_=>none
  |_,_,_=>none
 | .builtin .clear=>match c.argTypes[0]?,c.args.toList with
  |some t,[s]=>match C.P.underlying t with
   |some (.slice e)=>match B4 C.P e,Hc C.P e with
    |some (n+1),some z=>TB (.clear (n+1) z.cells) dst (BC C U [s])
    |_,_=>none
   |_=>none
  |_,_=>none
 | .builtin .max=>if c.args.size=2 then TA (.LI true) dst (BC C U c.args.toList) else none
 | .builtin .min=>if c.args.size=2 then TA (.LI false) dst (BC C U c.args.toList) else none
 | .value (.func f)=>if C.MR f then(match c.args.toList with
  |[s,i,v]=>if Ln C U v then TB .og dst (BC C U [s,i,v]) else none
  |_=>none) else if EF (C.alt fid f)=f then(BC C U c.args.toList).map λargs=>if C.aAk (C.alt fid f) then .B7 (C.alt fid f) args dst else .call (C.alt fid f) args dst else none
 | .value g=>match E8 C U g,BC C U c.args.toList with
  |some g,some args=>some (.Jc g args dst)
  |_,_=>none
 |_=>none
def WX(C:F8)(src dst:TypeId):Option (Option RZ):=
 match C.P.underlying src,C.P.underlying dst with
 |some (.int _),some (.int k)=>some (some (.conv k))
 |some (.int _),some .string=>some (some .i2s)
 |some .string,some .string=>some none
 |some (.slice e),some .string=>match C.P.underlying e with
  |some (.int .u8)=>some (some .WK)
  |_=>none
 |some .string,some (.slice e)=>match C.P.underlying e,B4 C.P e,Ki C.P e with
  |some (.int .u8),some 1,some 1=>some (some .s2b)
  |_,_,_=>none
 |_,_=>none
def Gr(C:F8)(U:BV):List Operand->Option (List Aa×List (Nat×List Aa))
 |[]=>some ([],[])
 |x::xs=>match Gr C U xs with
  |none=>none
  |some (vs,fz)=>match x,Eg C U x with
   | .tmp s,some (.box _ cs _)=>if(fz.map (·.1)).contains s then none else some (.CJ cs::vs,(s,cs)::fz)
   |_,some sl=>match sl.Hr with
    |some v=>some (v::vs,fz)
    |none=>none
   |_,none=>none
def Gs(C:F8)(fid:FuncId)(ops:List Oper)(U:BV)(o:Oper):Option EN:=
 match o.op with
 | .move x=>match o.dst with
  |some d=>KS C U x d (oq ops d)
  |none=>none
 | .assign x=>match o.dst with
  |some d=>KS C U x d true
  |none=>none
 | .pick c a b=>match Eg C U c,o.dst with
  |some (.O5 true),some d=>KS C U a d false
  |some (.O5 false),some d=>KS C U b d false
  |_,dst=>TA .pick dst (BC C U [c,a,b])
 | .alloc t=>match o.dst,Hc C.P t with
  |some d,some z=>match C.kind fid d with
   | .Po=>if B4 C.P t=some z.cells.length/\z.cells≠[] then some (.pure [(d,.box 0 z.cells (WW z.cells))]) else none
   |_=>Ut C fid t z d
  |_,_=>none
 | .box t x=>match o.dst,E8 C U x with
  |some d,some v=>Ut C fid t v d
  |_,_=>none
 | .build t parts=>match Hc C.P t,Kj C.P t parts.toList with
  |some z,some ps=>if VU C.P t then TA (.Cn z.cells ps) o.dst (BC C U (parts.toList.map (·.2))) else none
  |_,_=>none
 | .buildSlice t len parts=>match C.P.underlying t with
  |some (.slice e)=>match B4 C.P e with
   |some (n+1)=>if parts.toList.map (·.1)=List.range len/\Mk C.P e=true then if len=0/\(o.dst.map (C.ez fid)).getD false=true then some (.op (.E4 (n+1)) [] o.dst true none) else(BC C U (parts.toList.map (·.2))).map λargs=> .op (.C8 (n+1)) args o.dst true none else none
   |_=>none
  |_=>none
 | .load t x=>match o.dst with
  |some d=>LL C U t x d (oq ops d)
  |none=>none
 | .store t x y=>match o.dst with
  |none=>JF C U t x y
  |some _=>none
 | .nilCheck x=>match x,Eg C U x,o.dst with
  | .tmp s,some (.box _ _ _),some d=>some (.pure [(d,.Fl s 0)])
  |_,some (.Fl s k),some d=>some (.pure [(d,.Fl s k)])
  |x,_,dst=>TA .JK dst (BC C U [x])
 | .binOp op t x y _=>match Qf C.P op t with
  |some p=>TA p o.dst (BC C U [x,y])
  |none=>none
 | .unOp op _ x=>TA (.un op) o.dst (BC C U [x])
 | .convert src dst x=>match WX C src dst with
  |some (some .WK)=>(E8 C U x).map λv=> .WK v o.dst
  |some (some .s2b)=>if(o.dst.map (C.ez fid)).getD false then(E8 C U x).map λv=> .Ff v o.dst else TA .s2b o.dst (BC C U [x])
  |some (some p)=>TA p o.dst (BC C U [x])
  |_=>none
 | .makeFunc fn first captured=>match o.dst,BC C U first.toList,Gr C U captured.toList with
  |some d,some a,some (b,fz)=>some (.closure fn a b fz d)
  |_,_,_=>none
 | .makeMap _ none=>some (.Pm o.dst)
 | .makeSlice t l c=>match C.P.underlying t with
  |some (.slice e)=>match B4 C.P e,Ki C.P e,Hc C.P e,E8 C U l,E8 C U c with
   |some (n+1),some (b+1),some z,some l,some c=>some (.make (n+1) (b+1) z.cells l c o.dst)
   |_,_,_,_,_=>none
  |_=>none
 | .insert t m k v| .mapUpdate t m k v=>match C.P.underlying t with
  |some (.map kt _)=>match o.dst,C.P.underlying kt,BC C U [m,k,v] with
   |none,some .string,some [m,k,v]=>some (.KE m k v)
   |none,some (.int .i64),some [m,k,v]=>some (.mem .V_ [m,k,v] none)
   |_,_,_=>none
  |_=>none
 | .lookup t m k ok=>match C.P.underlying t with
  |some (.map kt e)=>match C.P.underlying kt,Hc C.P e,BC C U [m,k] with
   |some .string,some z,some [m,k]=>some (.Mj z ok m k o.dst)
   |some (.int .i64),some z,some [m,k]=>some (.mem (.oe z ok) [m,k] o.dst)
   |_,_,_=>none
  |_=>none
 | .slice t x (some lo) (some hi) (some mx)=>match C.P.underlying t with
  |some (.slice e)=>match B4 C.P e with
   |some (n+1)=>TB (.qR (n+1)) o.dst (BC C U [x,lo,hi,mx])
   |_=>none
  |_=>none
 | .makeInterface t x=>match C.P.underlying t with
  |some (.interface _)=>none
  |some _=>TB (.aFg t) o.dst (BC C U [x])
  |none=>none
 | .mapEntry t m k=>match C.P.underlying t with
  |some (.map kt e)=>match C.P.underlying kt,Hc C.P e with
   |some (.int .i64),some z=>TB (.Tx z) o.dst (BC C U [m,k])
   |some .string,some z=>TB (.qS z) o.dst (BC C U [m,k])
   |_,_=>none
  |_=>none
 | .entryStore _ m s v=>match o.dst with
  |none=>TB .Pk none (BC C U [m,s,v])
  |some _=>none
 | .slice t x lo hi none=>match C.P.underlying t with
  |some .string=>TA (.KK 0 true lo.isSome hi.isSome) o.dst (BC C U (x::(lo.toList++hi.toList)))
  |some (.slice e)=>match B4 C.P e with
   |some (n+1)=>if(o.dst.map (C.ez fid)).getD false then TB (.ey (n+1) lo.isSome hi.isSome) o.dst (BC C U (x::(lo.toList++hi.toList)))
    else TA (.KK (n+1) false lo.isSome hi.isSome) o.dst (BC C U (x::(lo.toList++hi.toList)))
   |_=>none
  |_=>none
 | .fieldAddr t x f=>match Iy C.P t f,o.dst with
  |some (off,_),some d=>match x,Eg C U x with
   | .tmp s,some (.box _ _ _)=>some (.pure [(d,.Fl s off)])
   |_,some (.Fl s k)=>some (.pure [(d,.Fl s (k+off))])
   |x,_=>TA (.Ll off) (some d) (BC C U [x])
  |_,_=>none
 | .field t x f=>match Iy C.P t f with
  |some (off,sh)=>TA (.part off sh) o.dst (BC C U [x])
  |none=>none
 | .indexAddr t x i=>match C.P.underlying t with
  |some (.slice e)=>match B4 C.P e with
   |some (n+1)=>TA (.Fu (n+1)) o.dst (BC C U [x,i])
   |_=>none
  |some (.array len e)=>match B4 C.P e with
   |some (n+1)=>if len<=1 then none else TA (.Uq len (n+1)) o.dst (BC C U [x,i])
   |_=>none
  |_=>none
 | .index t x i=>match C.P.underlying t with
  |some .string=>TA .Zr o.dst (BC C U [x,i])
  |some (.array len e)=>match B4 C.P e,Fq C.P e with
   |some (n+1),some sh=>TA (.aBH len (n+1) sh) o.dst (BC C U [x,i])
   |_,_=>none
  |_=>none
 | .extract x i=>TA (.ext i) o.dst (BC C U [x])
 | .call c=>Ri C fid U c o.dst
 |_=>none
def BV.Em(U:BV):List (Nat×Et)->BV
 |[]=>U
 |(s,x)::ws=>BV.Em (U.set s x) ws
def BV.put(U:BV)(dst:Option Nat)(x:Et):BV:=
 match dst with
 |some d=>U.set d x
 |none=>U
def BV.DS(U:BV):Option (Nat×Aa)->BV
 |some (s,v)=>U.set s (.val v)
 |none=>U
def WY(n:Nat)(cs:List Aa):List Aa:=(List.range n).map λi=>cs.getD i .nilIface
def WZ(cs:List Aa)(off n:Nat)(vs:List Aa):List Aa:=cs.take off++vs++cs.drop (off+n)
def R5(owned:List Nat)(off n:Nat)(Bt:Bool):List Nat:=
 let rest:=owned.filter λo=> !(off<=o&&o<off+n)
 if Bt then off::rest else rest
def EN.Ml(C:F8)(U:BV)(K:BV->IT):EN->IT
 | .pure ws=>K (U.Em ws)
 | .op p args dst Bt e=> .op p args λv=>K ((U.DS e).put dst (if Bt then .Bt v else .val v))
 | .box n v d=> .cells n v λcs=>K (U.set d (.box 0 (WY n cs) []))
 | .closure fn a b fz d=>K ((U.Em (fz.map λ(s,cs)=>(s,.val (.CJ cs)))).set d (.val (.func fn a b)))
 | .Nf s off n v Bt e ver cells owned=> .cells n v λvs=>K ((U.DS e).set s (.box (ver+1) (WZ cells off n (WY n vs)) (R5 owned off n Bt)))
 | .load n p dst=> .load n p λv=>K (U.put dst (.val v))
 | .store n p v=> .store n p v (K U)
 | .alloc n v dst=> .alloc n v λp=>K (U.put dst (.val p))
 | .call f args dst=> .call f args λr=>K (U.put dst (if C.Jk f then .Bt r else .val r))
 | .Jc g args dst=> .Jc g args λr=>K (U.put dst (.val r))
 | .B7 f args dst=> .B7 f args λr=>K (U.put dst (.val r))
 | .Pm dst=> .Pm λm=>K (U.put dst (.val m))
 | .KE m k v=> .KE m k v (K U)
 | .Mj z ok m k dst=> .Mj z ok m k λv=>K (U.put dst (.val v))
 | .make z b zero l c dst=> .make z b zero l c λv=>K (U.put dst (.val v))
 | .Lm z b s x dst e=> .Lm z b s x λv=>K ((U.DS e).put dst (.val v))
 | .JL z b s x dst=> .JL z b s x λv=>K (U.put dst (.val v))
 | .GD z b s x dst e=> .GD z b s x λv=>K ((U.DS e).put dst (.Bt v))
 | .Ff s dst=> .Ff s λv=>K (U.put dst (.val v))
 | .WK v dst=> .Ph v λv=> .op .WK [v] λu=>K (U.put dst (.val u))
 | .mem o args dst=> .mem o args λv=>K (U.put dst (if o.aFh then .undef else .val v))
def EN.news:EN->List Nat
 | .pure ws=>ws.filterMap λ(s,x)=>match x with| .box 0 _ _=>some s|_=>none
 | .box _ _ d=>[d]
 | .closure _ _ _ fz _=>fz.map (·.1)
 |_=>[]
inductive aFj where
 |Ny (run:Bool)
 |ask (qU:Nat) (v:Aa) (want:Bool)
 |bad
def IW(ops:List Oper)(U:BV)(o:Oper):aFj:=
 match o.guard with
 |none=> .Ny true
 |some (j,want)=>match(ops[j]?).bind (·.dst) with
  |some s=>match U.at s with
   | .O5 b=> .Ny (b==want)
   | .val v=> .ask s v want
   | .skip=> .Ny false
   |_=> .bad
  |none=> .bad
def ot(C:F8)(fid:FuncId)(ops:List Oper)(U:BV)(o:Oper)(K:BV->IT):IT:=
 match Gs C fid ops U o with
 |some r=>r.Ml C (U.drop r.news) K
 |none=> .fail
def TC(C:F8)(fid:FuncId)(ops:List Oper)(U:BV)(o:Oper)(K:BV->IT):IT:=
 match IW ops U o with
 | .Ny true=>ot C fid ops U o K
 | .Ny false=>K (U.put o.dst .skip)
 | .ask s v want=>
  let t:=if want then ot C fid ops (U.set s (.O5 true)) o K else K (BV.put (U.set s (.O5 true)) o.dst .skip)
  let e:=if want then K (BV.put (U.set s (.O5 false)) o.dst .skip) else ot C fid ops (U.set s (.O5 false)) o K
  .Gg v t e
 | .bad=> .fail
def TD:FuncId->Bool
 |_=>false
def R6(C:F8)(U:BV)(o:Oper):List (Nat×List Aa):=
 match o.op with
 | .call c=>(match c.callee with
  | .value (.func f)=>if TD f then(match Gr C U c.args.toList with|some (_,fz)=>fz|none=>[]) else[]
  |_=>[])
 |_=>[]
def aBN(C:F8)(U:BV)(o:Oper):BV:=(U.drop ((R6 C U o).map (·.1))).Em ((R6 C U o).map λ(s,cs)=>(s,.val (.CJ cs)))
def wJ(C:F8)(fid:FuncId)(ops:List Oper):List Oper->BV->(BV->IT)->IT
 |[],U,K=>K U
 |o::rest,U,K=>TC C fid ops (aBN C U o) o λU=>wJ C fid ops rest U K
end Go.Am
end
section
namespace Go.Am
def Oper.Vn(o:Oper):List Nat:=o.after.toList.filterMap λe=>if Region.binds .any e then some e.on else none
def bit(i:Nat):Nat:=2^i
def Lo(D0:List Nat):List Oper->List Nat
 |[]=>D0
 |o::rest=>Lo (D0++[(Oper.Vn o).foldl (λm e=>m|||bit e|||D0.getD e 0) 0]) rest
def W0(ops:List Oper):List Nat:=Lo [] ops
def Eu(an:List Nat)(i j:Nat):Bool:=(an.getD j 0).testBit i
def aAl(o:Oper):Bool:=
 match o.op with
 | .call c=>(match c.callee with| .builtin .copy| .builtin .clear=>true| .builtin _=>false|_=>true)
 | .store _ _ _| .insert _ _ _ _| .mapUpdate _ _ _ _| .makeMap _ _| .makeSlice _ _ _| .mapEntry _ _ _| .entryStore _ _ _ _=>true
 |_=>false
def W8(all:List Oper)(D0:List Nat):List Oper->List Nat
 |[]=>D0
 |o::rest=>W8 all (D0++[(Oper.Vn o).foldl (λm e=>Nat.max m (D0.getD e 0+(match all[e]? with|some x=>if aAl x then 1 else 0|none=>0))) 0]) rest
def W_(ops:List Oper):List Nat:=
 let st:=W8 ops [] ops
 let idx:=List.range ops.length
 let RR:=λi=>match ops[i]? with|some o=>aAl o|none=>false
 (List.range (ops.length+1)).flatMap λs=>(idx.filter λi=>st.getD i 0==s&& !RR i)++(idx.filter λi=>st.getD i 0==s&&RR i)
structure FP where
 rs:List Nat
 wf:List Nat
 hl:Bool
 RR:Bool
 news:List Nat
 lr:List Nat
 TE:Bool
 deriving Inhabited
def Kk(xs:List Operand):List Nat:=xs.filterMap λ| .tmp t=>some t|_=>none
def Oe(C:F8)(U:BV)(x:Operand):Option Nat:=
 match Gq C U x with
 |some (.Po s _ _ _ _)=>some s
 |_=>none
def H9(C:F8)(U:BV)(o:Oper):List Nat:=
 match o.op with
 | .load _ x=>(Oe C U x).toList
 | .store _ x _=>(Oe C U x).toList
 | .makeFunc _ _ captured=>Kk captured.toList
 |_=>[]
def EN.wf:EN->List Nat
 | .pure ws=>ws.map (·.1)
 | .op _ _ dst _ a=>dst.toList++(a.map (·.1)).toList
 | .box _ _ d=>[d]
 | .closure _ _ _ fz d=>d::fz.map (·.1)
 | .Nf s _ _ _ _ a _ _ _=>s::(a.map (·.1)).toList
 | .load _ _ dst| .alloc _ _ dst| .call _ _ dst| .Jc _ _ dst| .B7 _ _ dst| .Pm dst| .Mj _ _ _ _ dst| .make _ _ _ _ _ dst| .Ff _ dst| .WK _ dst| .JL _ _ _ _ dst| .mem _ _ dst=>dst.toList
 | .Lm _ _ _ _ dst a| .GD _ _ _ _ dst a=>dst.toList++(a.map (·.1)).toList
 | .store _ _ _| .KE _ _ _=>[]
def EN.hl:EN->Bool
 | .load _ _ _| .Mj _ _ _ _ _=>true
 |_=>false
def EN.RR:EN->Bool
 | .store _ _ _| .alloc _ _ _| .call _ _ _| .Jc _ _ _| .Pm _| .KE _ _ _| .make _ _ _ _ _ _| .Lm _ _ _ _ _ _| .Ff _ _| .WK _ _| .JL _ _ _ _ _| .GD _ _ _ _ _ _| .mem _ _ _=>true
 |_=>false
def FF(ops:List Oper)(o:Oper):List Nat:=
 match o.guard with
 |none=>[]
 |some (j,_)=>((ops[j]?).bind (·.dst)).toList
def VV(xs:List Et):List Nat:=xs.filterMap λ| .Fl t _=>some t|_=>none
def EN.wK:EN->List Nat
 | .pure ws=>VV (ws.map (·.2))
 |_=>[]
def EN.TE(U:BV)(r:EN):Bool:=
 Ng U r.news&&match r with
  | .load _ _ (some d)=>decide (d<U.length)
  | .load _ _ none| .Mj _ _ _ _ _| .closure _ _ _ (_::_) _=>false
  |_=>true
def Vo(C:F8)(ops:List Oper)(U:BV)(o:Oper)(r:Option EN):FP:=
 match r with
 |none=>{rs:=FF ops o,wf:=o.dst.toList,hl:=false,RR:=false,news:=[],lr:=VV (o.dst.toList.map U.at),TE:=true}
 |some r=>{rs:=FF ops o++Kk o.op.operands.toList++H9 C U o,wf:=r.wf++o.dst.toList,hl:=r.hl,RR:=r.RR,news:=r.news,lr:=VV ((r.wf++o.dst.toList).map U.at)++r.wK,TE:=r.TE U}
def Uu(a b:List Nat):Bool:=a.any λx=>b.contains x
def FP.apart(x y:FP):Bool:= !Uu x.wf (y.rs++y.wf)&& !Uu y.wf x.rs&& !Uu x.lr y.news&& !Uu y.lr x.news
def Rj(x y:FP):Bool:=x.TE&&y.TE&&x.apart y&& !(x.RR&&y.RR)&& !(x.RR&&y.hl)
def W9(n:Nat)(an:List Nat)(a:List (Nat×FP)):Bool:=
 go a&&(List.range n).all (λi=>(a.map (·.1)).contains i)
where
 go:List (Nat×FP)->Bool
  |[]=>true
  |(i,f)::rest=>rest.all (λ(j,g)=>i != j&& !Eu an j i&&(Eu an i j||Rj f g))&&go rest
structure KL where
 idx:Nat
 n:Option Nat
 p:Aa
 v:Aa
def R7(an:List Nat)(i:Nat):List KL->IT->IT
 |[],t=>t
 |f::fs,t=>if Eu an f.idx i then R7 an i fs t else .load f.n f.p λv=> .same f.v v (R7 an i fs t)
def MY(i:Nat)(r:EN)(U:BV)(fl:List KL):List KL:=
 match r with
 | .load n p (some d)=>match U.at d with
  | .val v=>{idx:=i,n,p,v}::fl
  |_=>fl
 |_=>fl
def Sa(ops:List Oper)(i:Nat):Bool:=ops.any λo=>match o.guard with|some (j,_)=>j==i|none=>false
def wL(d:Option Nat)(U:BV)(K:BV->IT):IT:=
 match d with
 |none=>K U
 |some d=>match U.at d with
  | .val v=> .Gg v (K (U.set d (.O5 true))) (K (U.set d (.O5 false)))
  |_=>K U
def Rk(C:F8)(fid:FuncId)(ops:List Oper)(an:List Nat):List Nat->List (Nat×FP)->List KL->BV->(BV->IT)->IT
 |[],a,_,U,K=>if W9 ops.length an a.reverse then K U else .fail
 |i::rest,a,fl,U,K=>
  match ops[i]? with
  |none=> .fail
  |some o=>match IW ops U o with
   | .Ny true=>match Gs C fid ops U o with
    |none=> .fail
    |some r=>r.Ml C (U.drop r.news) λc=>
     let next:=wL (if Sa ops i then o.dst else none) c λb=>Rk C fid ops an rest ((i,Vo C ops U o (some r))::a) (MY i r c fl) b K
     if r.RR then R7 an i fl next else next
   | .Ny false=>Rk C fid ops an rest ((i,Vo C ops U o none)::a) fl (U.put o.dst .skip) K
   |_=> .fail
def Ew(ops:List Oper)(o:Oper):List Nat:=
 o.dst.toList++match o.op with
  | .move (.tmp s)=>(match o.dst with|some d=>if oq ops d then[s] else[]|none=>[])
  | .assign (.tmp s)=>[s]
  | .store _ _ (.tmp s)=>[s]
  | .call c=>(match c.callee with| .builtin .append=>Kk c.args.toList| .value (.func f)=>if TD f then Kk c.args.toList else[]|_=>[])
  | .makeFunc _ _ captured=>Kk captured.toList
  |_=>[]
def Df:Code->List Nat
 | .region _ ops _=>ops.toList.flatMap (Ew ops.toList)
 | .seq a b=>Df a++Df b
 | .cond _ a b=>Df a++Df b
 | .block _ b=>Df b
 | .loop b=>Df b
 | .scope b=>Df b
 |_=>[]
def Ce:Code->List Nat
 | .region _ ops _=>ops.toList.flatMap (FF ops.toList)
 | .seq a b=>Ce a++Ce b
 | .cond (.tmp s) a b=>s::(Ce a++Ce b)
 | .cond _ a b=>Ce a++Ce b
 | .block _ b=>Ce b
 | .loop b=>Ce b
 | .scope b=>Ce b
 |_=>[]
def BV.clear(U:BV):List Nat->BV
 |[]=>U
 |s::ss=>BV.clear (U.set s .undef) ss
def GP:Code->Option Nat
 | .region id _ _=>some id
 | .seq a b=>(GP a).orElse λ_=>GP b
 | .cond _ a b=>(GP a).orElse λ_=>GP b
 | .block _ b| .loop b| .scope b=>GP b
 |_=>none
def Xa(U:BV):List (Nat×Sh)->Option (List Aa)
 |[]=>some []
 |(s,sh)::l=>
  let v:=match sh,U.at s with
   | .val,x=>x.Hr
   | .Bt,.Bt v=>some v
   | .box n ow,.box _ cs N9=>if cs.length=n/\ow.all (N9.contains ·) then some (.agg cs) else none
   |_,_=>none
  match v,Xa U l with
  |some v,some vs=>some (v::vs)
  |_,_=>none
def Z0:Et->Nat
 | .box ver _ _=>ver
 |_=>0
def JM(vs:List Aa):List (Nat×Sh)->Nat->BV->(BV->IT)->IT
 |[],_,U,K=>K U
 |(s,.val)::l,i,U,K=>JM vs l (i+1) (U.set s (.val (vs.getD i .nilIface))) K
 |(s,.Bt)::l,i,U,K=>JM vs l (i+1) (U.set s (.Bt (vs.getD i .nilIface))) K
 |(s,.box n ow)::l,i,U,K=> .cells n (vs.getD i .nilIface) λcs=>JM vs l (i+1) (U.set s (.box (Z0 (U.at s)+1) (WY n cs) ow)) K
def qV(U:BV)(a:BV)(l:List (Nat×Sh)):Bool:=
 (List.range U.length).all λs=>match U.at s with
  | .box ver _ _=>(l.map (·.1)).contains s||(match a.at s with| .box Gt _ _=>Gt==ver|_=>false)
  | .Fl _ _=>(l.map (·.1)).contains s||(match a.at s with| .Fl _ _=>true|_=>false)
  |_=>true
def TF(b:BV)(l:List (Nat×Sh))(x:DX)(a:BV):IT:=
 if qV b a l then match Xa a l with
  |some vs=> .ret x vs
  |none=> .fail
 else .fail
def ou(l:List (Nat×Sh))(ws:List Nat)(U:BV):Bool:=l.all λ(s,_)=>ws.contains s||(match U.at s with| .box _ _ _=>true|_=>false)
def cP(ops:List Oper):Bool:=ops.zipIdx.all λ(o,i)=>(Oper.Vn o).all λe=>decide (e<i)
def Sb(C:F8)(fid:FuncId)(ops:List Oper)(draw:Bool)(U:BV)(K:BV->IT):IT:=
 if draw then(if cP ops then Rk C fid ops (W0 ops) (W_ ops) [] [] U K else .fail) else wJ C fid ops ops U K
def cQ(key:Nat)(U:BV)(ws:List Nat)(l:List (Nat×Sh))(t:(DX->BV->IT)->IT)(K:DX->BV->IT):IT:=
 let b:=U.clear ws
 if ou l ws U then .Oc key (t λx a=>TF b l x a) λx vs=>JM vs l 0 b λa=>K x a else .fail
def aAm(K:DX->BV->IT):DX->BV->IT
 | .normal,_=> .fail
 | .exit i,U=>K (.exit i) U
 | .ret,U=>K .ret U
def Gu(C:F8)(fid:FuncId):Code->BV->(DX->BV->IT)->IT
 | .skip,U,K=>K .normal U
 | .region id ops draw,U,K=>match C.aAj fid id with
  |none=>Sb C fid ops.toList draw U (K .normal)
  |some l=>cQ (200000+id) U (ops.toList.flatMap (Ew ops.toList)++ops.toList.flatMap (FF ops.toList)) l (λK=>Sb C fid ops.toList draw U (K .normal)) K
 | .seq a b,U,K=>Gu C fid a U λx d=>match x with
  | .normal=>Gu C fid b d K
  | .exit i=>K (.exit i) d
  | .ret=>K .ret d
 | .cond c a b,U,K=>match c,Eg C U c with
  |_,some (.O5 true)=>Gu C fid a U K
  |_,some (.O5 false)=>Gu C fid b U K
  | .tmp s,some (.val v)=>match C.aAi fid s with
   |none=> .Gg v (Gu C fid a (U.set s (.O5 true)) K) (Gu C fid b (U.set s (.O5 false)) K)
   |some l=>cQ (100000+s) U (s::(Df a++Df b++Ce a++Ce b)) l (λK=> .Gg v (Gu C fid a (U.set s (.O5 true)) K) (Gu C fid b (U.set s (.O5 false)) K)) K
  |_,_=> .fail
 | .block id b,U,K=>Gu C fid b U λx d=>match x with
  | .normal=>K .normal d
  | .exit i=>if i=id then K .normal d else K (.exit i) d
  | .ret=>K .ret d
 | .loop b,U,K=>
  let l:=C.aBJ fid ((GP b).getD 0)
  let ws:=Df b++Ce b
  let f:=U.clear ws
  if ou l ws U then match Xa U l with
   |none=> .fail
   |some init=> .loop ((GP b).getD 0) init (λvs=>JM vs l 0 f λe=>Gu C fid b e λx d=>TF f l x d) λx vs=>JM vs l 0 f λd=>aAm K x d
  else .fail
 | .exit id,U,K=>K (.exit id) U
 | .ret,U,K=>K .ret U
 | .scope b,U,K=>Gu C fid b U K
 | .label _,U,K=>K .normal U
 |_,_,_=> .fail
def GL(C:F8)(U:BV):List ResultVar->List Aa->(List Aa->IT)->IT
 |[],D0,K=>K D0.reverse
 | .tmp t::rs,D0,K=>match(U.at t).Hr with
  |some v=>GL C U rs (v::D0) K
  |none=> .fail
 | .cell a t::rs,D0,K=>match Fq C.P t,Gq C U (.tmp a) with
  |some none,some (.Po _ o _ cs _)=>if o<cs.length then GL C U rs (cs.getD o .nilIface::D0) K else .fail
  |some (some n),some (.Po _ o _ cs _)=>if o+n<=cs.length then GL C U rs (.agg ((cs.drop o).take n)::D0) K else .fail
  |some n,some (.ptr p)=> .load n p λv=>GL C U rs (v::D0) K
  |_,_=> .fail
def Qg(U:BV):List ResultVar->Bool
 |[.tmp t]=>match U.at t with| .Bt _=>true|_=>false
 |_=>false
def wM(C:F8)(U:BV):List (Nat×Nat)->IT->IT
 |[],t=>t
 |(s,off)::l,t=>match(U.at s).Hr with
  |some p=> .Pn off p (wM C U l t)
  |none=> .fail
def Pq:List Aa->List Aa->(List Aa->IT)->IT
 |[],D0,K=>K D0.reverse
 |v::vs,D0,K=> .Ph v λv=>Pq vs (v::D0) K
def Uv:List Aa->IT
 |[v]=> .ret .ret [v]
 |vs=> .ret .ret [.tuple vs]
def lU(C:F8)(fid:FuncId)(fn:Func)(U:BV):IT:=
 if C.Jk fid&& !Qg U fn.results.toList then .fail
 else wM C U (C.om fid) (GL C U fn.results.toList [] λvs=>if C.oj fid then Pq vs [] Uv else Uv vs)
def ov(C:F8)(fid:FuncId)(fn:Func)(args:List Aa):IT:=
 match fn.body with
 |none=> .fail
 |some c=>Gu C fid c (args.map .val++List.replicate (fn.ntmps-args.length) .undef) λx U=>match x with
  | .normal=>lU C fid fn U
  | .exit _=> .fail
  | .ret=>lU C fid fn U
def aFk(C:F8)(fid:FuncId)(args:List Aa):IT:=
 match C.P.funcs[EF fid]? with
 |some fn=>if fn.name== "runtime.NumGoroutine" then .fail else ov C fid fn args
 |none=> .fail
def B9(C:F8)(fid:FuncId)(args:List Aa):IT:=
 match C.aBK fid with
 |some p=>p args
 |none=>aFk C fid args
abbrev g(l:List Aa)(i:Nat):Aa:=l.getD i .nilIface
abbrev I(n:Int):Aa:= .int .i64 n
abbrev S(s:An):Aa:= .str s
abbrev tt:Aa:= .bool true
abbrev ff:Aa:= .bool false
abbrev F8.run(C:F8):Nat->IT->Ah->Option Ke:=IT.run (B9 C)
end Go.Am
end
end
section
namespace Go.Am
def IT.JY{fn:FuncId->List Aa->IT}{rec aFl:IT->Ah->Option Ke}(hr:∀t h r,rec t h=some r->aFl t h=some r):
  ∀(t:IT) (h:Ah) (r:Ke),IT.step fn rec t h=some r->IT.step fn aFl t h=some r:=by
 intro t;induction t with
 |ret x vs=>intro h r d;simpa[IT.step] using d
 |fail=>intro h r d;simp[IT.step] at d
 |op o args k ih=>
  intro h r d;simp only[IT.step] at d⊢;split at d;.exact ih _ _ _ d
  .cases d
 |cells n v k ih=>
  intro h r d;simp only[IT.step] at d⊢;split at d;.rename_i hc;rw[Af hc];exact ih _ _ _ d
  .cases d
 |Gg c t e i q=>
  intro h r d;simp only[IT.step] at d⊢;split at d;.exact i _ _ d
  .exact q _ _ d
  .cases d
 |load n p k ih=>
  intro h r d;simp only[IT.step] at d⊢;split at d;.exact ih _ _ _ d
  .cases d
 |store n p v k ih=>
  intro h r d;simp only[IT.step] at d⊢;split at d;.exact ih _ _ d
  .cases d
 |alloc n v k ih=>
  intro h r d;simp only[IT.step] at d⊢;split at d;.exact ih _ _ _ d
  .cases d
 |call f args k ih=>
  intro h r d;simp only[IT.step] at d⊢;split at d;.rename_i h1;rw[hr _ _ _ h1];exact ih _ _ _ d
  .cases d
 |Jc g args k ih=>
  intro h r d;simp only[IT.step] at d⊢;split at d
  .rename_i f a ht;split at d;.rename_i h1;simp only[hr _ _ _ h1];exact ih _ _ _ d
   .cases d
  .cases d
 |B7 f args k ih=>
  intro h r d;simp only[IT.step] at d⊢;split at d
  .rename_i Hm;rw[Af Hm];split at d
   .rename_i h1;rw[hr _ _ _ h1];split at d;.rename_i mw;simp only[mw,BI];exact ih _ _ _ d
    .cases d
   .cases d
  .cases d
 |loop key init body k l j=>
  intro h r d;simp only[IT.step] at d⊢;split at d;.rename_i h1;rw[l _ _ _ h1];exact hr _ _ _ d
  .rename_i x vs h1 hne hx;rw[l _ _ _ hx];cases x<;>first|exact j _ _ _ _ d|exact absurd rfl hne
  .cases d
 |Oc key t k i j=>
  intro h r d;simp only[IT.step] at d⊢;split at d;.rename_i h1;rw[i _ _ h1];exact j _ _ _ _ d
  .cases d
 |same a b k ih=>
  intro h r d;simp only[IT.step] at d⊢;split at d;.rename_i hc;rw[Af hc];exact ih _ _ d
  .cases d
 |Pm k ih=>intro h r d;simp only[IT.step] at d⊢;exact ih _ _ _ d
 |KE m key v k ih=>
  intro h r d;simp only[IT.step] at d⊢;split at d;.exact ih _ _ d
  .cases d
 |Mj z ok m key k ih=>
  intro h r d;simp only[IT.step] at d⊢;split at d;.exact ih _ _ _ d
  .cases d
 |make size bytes zero len cap k ih=>
  intro h r d;simp only[IT.step] at d⊢;split at d;.exact ih _ _ _ d
  .cases d
 |Lm size bytes s x k ih=>
  intro h r d;simp only[IT.step] at d⊢;split at d;.exact ih _ _ _ d
  .cases d
 |Ff s k ih=>
  intro h r d;simp only[IT.step] at d⊢;split at d;.exact ih _ _ _ d
  .cases d
 |Ph v k ih=>
  intro h r d;simp only[IT.step] at d⊢;split at d;.exact ih _ _ _ d
  .cases d
 |Pn off p k ih=>
  intro h r d;simp only[IT.step] at d⊢;split at d;.exact ih _ _ d
  .cases d
 |JL size bytes s x k ih=>
  intro h r d;simp only[IT.step] at d⊢;split at d;.exact ih _ _ _ d
  .cases d
 |GD size bytes s x k ih=>
  intro h r d;simp only[IT.step] at d⊢;split at d;.exact ih _ _ _ d
  .cases d
 |mem o args k ih=>
  intro h r d;simp only[IT.step] at d⊢;split at d;.exact ih _ _ _ d
  .cases d
 |wF f args k ih=>
  intro h r d;simp only[IT.step] at d⊢;split at d
  .rename_i h1;rw[hr _ _ _ h1];split at d;.rename_i mw;simp only[mw,BI];exact ih _ _ _ d
   .cases d
  .cases d
def IT.oz{fn:FuncId->List Aa->IT}:∀(n:Nat) (t:IT) (h:Ah) (r:Ke),IT.run fn n t h=some r->IT.run fn (n+1) t h=some r:=by
 intro n;induction n with
 |zero=>intro t h r a;simp[IT.run] at a
 |succ n ih=>intro t h r a;exact IT.JY (λt h r=>ih t h r) t h r a
def IT.Ig{fn:FuncId->List Aa->IT}{n m:Nat}(hnm:n<=m){t:IT}{h:Ah}{r:Ke}(a:IT.run fn n t h=some r):IT.run fn m t h=some r:=by
 induction hnm with
 |refl=>exact a
 |step _ ih=>exact IT.oz _ _ _ _ ih
abbrev HF:=DX->List Aa->Ah->Prop
def W(C:F8)(t:IT)(Q:HF)(h:Ah):Prop:=∃n x vs h',C.run n t h=some (x,vs,h')/\Q x vs h'
section
variable{C:F8}{Q:HF}{h:Ah}
def W.mono{t:IT}{Q':HF}(hw:W C t Q h)(hq:∀x vs h',Q x vs h'->Q' x vs h'):W C t Q' h:=
 let⟨n,x,vs,h',hr,q⟩:=hw;⟨n,x,vs,h',hr,hq _ _ _ q⟩
def aAn{x:DX}{vs:List Aa}(hq:Q x vs h):W C (.ret x vs) Q h:=⟨1,x,vs,h,rfl,hq⟩
def C7{t:IT}(a:∃n x vs h',IT.step (B9 C) (C.run n) t h=some (x,vs,h')/\Q x vs h'):W C t Q h:=
 let⟨n,x,vs,h',hr,q⟩:=a;⟨n+1,x,vs,h',hr,q⟩
def W.succ{t:IT}(a:W C t Q h):∃n x vs h',IT.step (B9 C) (C.run n) t h=some (x,vs,h')/\Q x vs h':=by
 obtain⟨n,x,vs,h',hr,q⟩:=a;cases n with
 |zero=>simp[F8.run,IT.run] at hr
 |succ n=>exact⟨n,x,vs,h',hr,q⟩
def aFm{o:RZ}{args:List Aa}{k:Aa->IT}{v:Aa}(hv:AB o args=some v)(hw:W C (k v) Q h):W C (.op o args k) Q h:=by obtain⟨n,x,vs,h',hr,q⟩:=hw.succ;exact C7 ⟨n,x,vs,h',by simp only[IT.step,hv];exact hr,q⟩
def wN{n:Nat}{v:Aa}{k:List Aa->IT}(hv:v.cells.length=n)(hw:W C (k v.cells) Q h):W C (.cells n v k) Q h:=by obtain⟨m,x,vs,h',hr,q⟩:=hw.succ;exact C7 ⟨m,x,vs,h',by simp only[IT.step,hv,BI];exact hr,q⟩
def wO{b:Bool}{t e:IT}(ht:b=true->W C t Q h)(he:b=false->W C e Q h):W C (.Gg (.bool b) t e) Q h:=by
 cases b with
 |true=>obtain⟨m,x,vs,h',hr,q⟩:=(ht rfl).succ;exact C7 ⟨m,x,vs,h',by simp only[IT.step];exact hr,q⟩
 |false=>obtain⟨m,x,vs,h',hr,q⟩:=(he rfl).succ;exact C7 ⟨m,x,vs,h',by simp only[IT.step];exact hr,q⟩
def o_{n:Option Nat}{p v:Aa}{k:Aa->IT}(hv:A7 h n p=some v)(hw:W C (k v) Q h):W C (.load n p k) Q h:=by obtain⟨m,x,vs,h',hr,q⟩:=hw.succ;exact C7 ⟨m,x,vs,h',by simp only[IT.step,hv];exact hr,q⟩
def wQ{n:Nat}{p v:Aa}{k:IT}{h1:Ah}(hv:Co h n p v=some h1)(hw:W C k Q h1):W C (.store n p v k) Q h:=by obtain⟨m,x,vs,h',hr,q⟩:=hw.succ;exact C7 ⟨m,x,vs,h',by simp only[IT.step,hv];exact hr,q⟩
def wR{n:Nat}{v:Aa}{k:Aa->IT}(hv:v.cells.length=n)(hw:W C (k (.ptr (some (h.length,0)))) Q (h++[.cells v.cells])):W C (.alloc n v k) Q h:=by obtain⟨m,x,vs,h',hr,q⟩:=hw.succ;exact C7 ⟨m,x,vs,h',by simp only[IT.step,WN,hv,BI];exact hr,q⟩
def pc{a b:Aa}{k:IT}(hv:Aa.beq a b=true)(hw:W C k Q h):W C (.same a b k) Q h:=by obtain⟨m,x,vs,h',hr,q⟩:=hw.succ;exact C7 ⟨m,x,vs,h',by simp only[IT.step,hv,BI];exact hr,q⟩
def pd{k:Aa->IT}(hw:W C (k (.map (some h.length))) Q (h++[.map []])):W C (.Pm k) Q h:=by obtain⟨m,x,vs,h',hr,q⟩:=hw.succ;exact C7 ⟨m,x,vs,h',by simp only[IT.step];exact hr,q⟩
def pg{m key v:Aa}{k:IT}{h1:Ah}(hv:Ur h m key v=some h1)(hw:W C k Q h1):W C (.KE m key v k) Q h:=by obtain⟨n,x,vs,h',hr,q⟩:=hw.succ;exact C7 ⟨n,x,vs,h',by simp only[IT.step,hv];exact hr,q⟩
def ph{z:Aa}{ok:Bool}{m key v:Aa}{k:Aa->IT}(hv:Us h z ok m key=some v)(hw:W C (k v) Q h):W C (.Mj z ok m key k) Q h:=by obtain⟨n,x,vs,h',hr,q⟩:=hw.succ;exact C7 ⟨n,x,vs,h',by simp only[IT.step,hv];exact hr,q⟩
def qW{size bytes:Nat}{zero:List Aa}{len cap v:Aa}{k:Aa->IT}{h1:Ah}(hv:R2 h size bytes zero len cap=some (h1,v))(hw:W C (k v) Q h1):W C (.make size bytes zero len cap k) Q h:=by obtain⟨n,x,vs,h',hr,q⟩:=hw.succ;exact C7 ⟨n,x,vs,h',by simp only[IT.step,hv];exact hr,q⟩
def wS{size bytes:Nat}{s x v:Aa}{k:Aa->IT}{h1:Ah}(hv:Jj h size bytes s x=some (h1,v))(hw:W C (k v) Q h1):W C (.Lm size bytes s x k) Q h:=by obtain⟨n,x,vs,h',hr,q⟩:=hw.succ;exact C7 ⟨n,x,vs,h',by simp only[IT.step,hv];exact hr,q⟩
def Xb{s v:Aa}{k:Aa->IT}{h1:Ah}(hv:IV h s=some (h1,v))(hw:W C (k v) Q h1):W C (.Ff s k) Q h:=by obtain⟨n,x,vs,h',hr,q⟩:=hw.succ;exact C7 ⟨n,x,vs,h',by simp only[IT.step,hv];exact hr,q⟩
def aAo{u v:Aa}{k:Aa->IT}{h1:Ah}(hv:Kd h u=some (h1,v))(hw:W C (k v) Q h1):W C (.Ph u k) Q h:=by obtain⟨n,x,vs,h',hr,q⟩:=hw.succ;exact C7 ⟨n,x,vs,h',by simp only[IT.step,hv];exact hr,q⟩
def wT{off:Nat}{p:Aa}{k:IT}{h1:Ah}(hv:KR h off p=some h1)(hw:W C k Q h1):W C (.Pn off p k) Q h:=by obtain⟨n,x,vs,h',hr,q⟩:=hw.succ;exact C7 ⟨n,x,vs,h',by simp only[IT.step,hv];exact hr,q⟩
def pj{size bytes:Nat}{s x v:Aa}{k:Aa->IT}{h1:Ah}(hv:Fw h size bytes s x=some (h1,v))(hw:W C (k v) Q h1):W C (.JL size bytes s x k) Q h:=by obtain⟨n,x,vs,h',hr,q⟩:=hw.succ;exact C7 ⟨n,x,vs,h',by simp only[IT.step,hv];exact hr,q⟩
def Z3{size bytes:Nat}{s x v:Aa}{k:Aa->IT}(hv:QS h size bytes s x=some v)(hw:W C (k v) Q h):W C (.GD size bytes s x k) Q h:=by obtain⟨n,x,vs,h',hr,q⟩:=hw.succ;exact C7 ⟨n,x,vs,h',by simp only[IT.step,hv];exact hr,q⟩
def aAp{o:lQ}{args:List Aa}{v:Aa}{k:Aa->IT}{h1:Ah}(hv:E7 o h args=some (h1,v))(hw:W C (k v) Q h1):W C (.mem o args k) Q h:=by obtain⟨n,x,vs,h',hr,q⟩:=hw.succ;exact C7 ⟨n,x,vs,h',by simp only[IT.step,hv];exact hr,q⟩
def Ev(C:F8)(f:FuncId)(args:List Aa)(h:Ah)(R:Aa->Ah->Prop):Prop:=
 W C (B9 C f args) (λx vs h'=>x= .ret/\∃r,vs=[r]/\R r h') h
def Ev.mono{f:FuncId}{args:List Aa}{R R':Aa->Ah->Prop}(hw:Ev C f args h R)(hr:∀r h',R r h'->R' r h'):Ev C f args h R':=
 W.mono hw λ_ _ _ ⟨hx,r,hv,hR⟩=>⟨hx,r,hv,hr _ _ hR⟩
def pk{f:FuncId}{args:List Aa}{k:Aa->IT}(hc:Ev C f args h λr h1=>W C (k r) Q h1):W C (.call f args k) Q h:=by obtain⟨n,x,vs,h1,hr,hx,r,hv,m,x',HS,h',F9,q⟩:=hc;subst hx;subst hv;refine C7 ⟨max n m,x',HS,h',?_,q⟩;have a:=IT.Ig (HP n m) hr;have h2:=IT.Ig (Br (Ho n m) (Fj _)) F9;simp only[IT.step];simp only[F8.run] at*;rw[a];exact h2
def X_{f:FuncId}{args:List Aa}{k:Aa->IT}(ha:args.all Aa.MQ=true)(hc:Ev C f args [] λr _=>r.MQ=true/\W C (k r) Q h):W C (.B7 f args k) Q h:=by obtain⟨n,x,vs,h1,hr,hx,r,hv,Hm,m,x',HS,h',F9,q⟩:=hc;subst hx;subst hv;refine C7 ⟨max n m,x',HS,h',?_,q⟩;have a:=IT.Ig (HP n m) hr;have h2:=IT.Ig (Br (Ho n m) (Fj _)) F9;simp only[IT.step,ha,BI];simp only[F8.run] at*;rw[a];simp only[Hm,BI];exact h2
def po{key:Nat}{t:IT}{k:DX->List Aa->IT}(hw:W C t (λx vs h1=>W C (k x vs) Q h1) h):W C (.Oc key t k) Q h:=by obtain⟨n,x,vs,h1,hr,a⟩:=hw.succ;obtain⟨m,x',HS,h',F9,q⟩:=a.succ;refine C7 ⟨max n m,x',HS,h',?_,q⟩;have c:=IT.JY (λt h r=>IT.Ig (fn:=B9 C) (HP n m)) _ _ _ hr;have b:=IT.JY (λt h r=>IT.Ig (fn:=B9 C) (Ho n m)) _ _ _ F9;simp only[IT.step];simp only[F8.run] at*;rw[c];exact b
end
end Go.Am
end
