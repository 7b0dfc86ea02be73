/- Lemmas -/
import GoSem.Step
set_option linter.unusedVariables false
set_option linter.unusedSimpArgs false
theorem Ac:type_of%@Nat.le_refl:=@Nat.le_refl
theorem Ad:type_of%@List.getElem?_append_left:=@List.getElem?_append_left
theorem Ae:type_of%@List.getElem?_eq_some_iff:=@List.getElem?_eq_some_iff
theorem Af:type_of%@List.getElem?_set_ne:=@List.getElem?_set_ne
theorem Ah:type_of%@List.length_map:=@List.length_map
theorem Ai:type_of%@List.getElem?_eq_getElem:=@List.getElem?_eq_getElem
theorem Aj:type_of%@false_implies:=@false_implies
theorem Ak:type_of%@true_implies:=@true_implies
theorem Al:type_of%@List.length_take:=@List.length_take
theorem An:type_of%@not_false_eq_true:=@not_false_eq_true
theorem Ao:type_of%@List.length_append:=@List.length_append
theorem Ap:type_of%@List.mem_append:=@List.mem_append
theorem Aq:type_of%@not_true_eq_false:=@not_true_eq_false
theorem Av:type_of%@List.take_succ_eq_append_getElem:=@List.take_succ_eq_append_getElem
theorem Ax:type_of%@List.append_assoc:=@List.append_assoc
theorem Az:type_of%@List.take_of_length_le:=@List.take_of_length_le
theorem AB:type_of%@decide_eq_false:=@decide_eq_false
theorem AD:type_of%@decide_eq_true:=@decide_eq_true
theorem AE:type_of%@List.getD_eq_getElem?_getD:=@List.getD_eq_getElem?_getD
theorem AG:type_of%@List.getElem?_set_self:=@List.getElem?_set_self
theorem AH:type_of%@List.drop_eq_getElem_cons:=@List.drop_eq_getElem_cons
theorem AI:type_of%@List.getElem_mem:=@List.getElem_mem
theorem AN:type_of%@Nat.lt_or_ge:=@Nat.lt_or_ge
theorem AO:type_of%@Nat.zero_le:=@Nat.zero_le
theorem AP:type_of%@List.mem_cons:=@List.mem_cons
theorem AS:type_of%@Int.toNat_natCast:=@Int.toNat_natCast
theorem AW:type_of%@eq_true:=@eq_true
theorem AX:type_of%@List.Sublist.refl:=@List.Sublist.refl
theorem AY:type_of%@List.drop_of_length_le:=@List.drop_of_length_le
theorem A4:type_of%@Array.getElem?_eq_some_iff:=@Array.getElem?_eq_some_iff
theorem A5:type_of%@List.getElem?_append_right:=@List.getElem?_append_right
theorem A8:type_of%@List.length_drop:=@List.length_drop
theorem Bc:type_of%@List.length_singleton:=@List.length_singleton
theorem Be:type_of%@List.length_set:=@List.length_set
theorem Bf:type_of%@List.length_cons:=@List.length_cons
theorem Bj:type_of%@List.mem_of_mem_take:=@List.mem_of_mem_take
theorem Bl:type_of%@List.mem_map:=@List.mem_map
theorem Bm:type_of%@List.map_cons:=@List.map_cons
theorem Bn:type_of%@Nat.add_zero:=@Nat.add_zero
theorem Bt:type_of%@Nat.le_trans:=@Nat.le_trans
theorem Bu:type_of%@List.take_length:=@List.take_length
theorem Bv:type_of%@List.append_nil:=@List.append_nil
theorem Bw:type_of%@List.mem_of_mem_drop:=@List.mem_of_mem_drop
theorem BC:type_of%@Nat.add_mul:=@Nat.add_mul
theorem BD:type_of%@List.nil_append:=@List.nil_append
theorem BE:type_of%@List.map_append:=@List.map_append
theorem BF:type_of%@Option.some.injEq:=@Option.some.injEq
theorem BJ:type_of%@Nat.zero_add:=@Nat.zero_add
theorem BK:type_of%@Bool.and_eq_true:=@Bool.and_eq_true
theorem BO:type_of%@if_true:=@if_true
theorem BP:type_of%@List.set_append_right:=@List.set_append_right
theorem BT:type_of%@Option.map_some:=@Option.map_some
theorem BU:type_of%@List.length_nil:=@List.length_nil
theorem BV:type_of%@List.mem_append_right:=@List.mem_append_right
theorem BY:type_of%@List.nodup_cons:=@List.nodup_cons
theorem BZ:type_of%@List.set_eq_take_append_cons_drop:=@List.set_eq_take_append_cons_drop
theorem B7:type_of%@List.size_toArray:=@List.size_toArray
theorem B8:type_of%@List.nodup_append:=@List.nodup_append
theorem B9:type_of%@Nat.zero_lt_one:=@Nat.zero_lt_one
theorem Cc:type_of%@List.getElem?_map:=@List.getElem?_map
theorem Cf:type_of%@congrArg:=@congrArg
theorem Ch:type_of%@List.getElem?_take:=@List.getElem?_take
theorem Ci:type_of%@Array.length_toList:=@Array.length_toList
theorem Cj:type_of%@List.mem_filterMap:=@List.mem_filterMap
theorem Co:type_of%@Nat.min_eq_left:=@Nat.min_eq_left
theorem Ct:type_of%@Option.bind_some:=@Option.bind_some
theorem Cx:type_of%@eq_self:=@eq_self
theorem CA:type_of%@List.getElem?_drop:=@List.getElem?_drop
theorem CC:type_of%@List.cons_append:=@List.cons_append
theorem CE:type_of%@List.mem_of_getElem?:=@List.mem_of_getElem?
theorem CF:type_of%@List.mem_append_left:=@List.mem_append_left
theorem CL:type_of%@List.take_append_drop:=@List.take_append_drop
theorem CN:type_of%@List.getElem_map:=@List.getElem_map
theorem CU:type_of%@List.getElem?_of_mem:=@List.getElem?_of_mem
theorem CV:type_of%@List.take_append_of_le_length:=@List.take_append_of_le_length
theorem CY:type_of%@Nat.sub_self:=@Nat.sub_self
theorem C2:type_of%@Bool.false_eq_true:=@Bool.false_eq_true
theorem C3:type_of%@Array.getElem?_eq_getElem:=@Array.getElem?_eq_getElem
theorem C9:type_of%@List.getElem?_take_of_lt:=@List.getElem?_take_of_lt
theorem Dc:type_of%@List.flatten_cons:=@List.flatten_cons
theorem De:type_of%@Nat.succ_pos:=@Nat.succ_pos
theorem Dg:type_of%@Nat.lt_irrefl:=@Nat.lt_irrefl
theorem Dk:type_of%@List.mem_or_eq_of_mem_set:=@List.mem_or_eq_of_mem_set
theorem DK:type_of%@decide_eq_true_eq:=@decide_eq_true_eq
theorem DR:type_of%@List.map_nil:=@List.map_nil
theorem DS:type_of%@Ne.symm:=@Ne.symm
theorem DX:type_of%@List.mem_filter:=@List.mem_filter
theorem D4:type_of%@decide_eq_decide:=@decide_eq_decide
theorem D8:type_of%@decide_true:=@decide_true
theorem Ef:type_of%@if_false:=@if_false
theorem Ez:type_of%@Nat.one_mul:=@Nat.one_mul
theorem EA:type_of%@Nat.mul_le_mul_right:=@Nat.mul_le_mul_right
theorem EB:type_of%@List.filter_append:=@List.filter_append
theorem ED:type_of%@Option.some.inj:=@Option.some.inj
theorem EL:type_of%@List.all_eq_true:=@List.all_eq_true
theorem EY:type_of%@List.eq_nil_of_length_eq_zero:=@List.eq_nil_of_length_eq_zero
theorem EZ:type_of%@List.take_sublist:=@List.take_sublist
theorem E3:type_of%@List.getElem?_eq_none:=@List.getElem?_eq_none
theorem E9:type_of%@List.drop_drop:=@List.drop_drop
theorem Fi:type_of%@decide_false:=@decide_false
theorem Fj:type_of%@List.map_set:=@List.map_set
theorem Fk:type_of%@List.mem_singleton:=@List.mem_singleton
theorem Fo:type_of%@List.drop_length:=@List.drop_length
theorem FQ:type_of%@List.reverse_cons:=@List.reverse_cons
theorem FW:type_of%@List.length_pos_iff:=@List.length_pos_iff
theorem Gf:type_of%@Nat.le_succ:=@Nat.le_succ
theorem Gr:type_of%@List.length_replicate:=@List.length_replicate
theorem Gs:type_of%@List.filterMap_append:=@List.filterMap_append
theorem GJ:type_of%@Nat.add_sub_cancel:=@Nat.add_sub_cancel
theorem GL:type_of%@List.getElem_append_left:=@List.getElem_append_left
theorem GX:type_of%@List.take_take:=@List.take_take
theorem GY:type_of%@List.take_left:=@List.take_left
theorem GZ:type_of%@List.reverse_reverse:=@List.reverse_reverse
theorem Hu:type_of%@List.cons.injEq:=@List.cons.injEq
theorem HE:type_of%@List.findIdx?_eq_some_iff_findIdx_eq:=@List.findIdx?_eq_some_iff_findIdx_eq
theorem HV:type_of%@List.map_take:=@List.map_take
theorem HW:type_of%@Int.le_refl:=@Int.le_refl
theorem Ih:type_of%@Option.getD_some:=@Option.getD_some
theorem Ii:type_of%@Nat.le_add_right:=@Nat.le_add_right
theorem I5:type_of%@List.find?_cons:=@List.find?_cons
theorem I8:type_of%@Nat.mul_one:=@Nat.mul_one
theorem I9:type_of%@bne_self_eq_false:=@bne_self_eq_false
theorem Jm:type_of%@Array.ext':=@Array.ext'
theorem Jn:type_of%@Bool.false_or:=@Bool.false_or
theorem Jy:type_of%@Array.toList_append:=@Array.toList_append
theorem JQ:type_of%@List.take_zero:=@List.take_zero
theorem JR:type_of%@List.getElem?_cons_zero:=@List.getElem?_cons_zero
theorem JS:type_of%@Bool.not_false:=@Bool.not_false
theorem JT:type_of%@List.filter_cons:=@List.filter_cons
theorem KM:type_of%@List.take_left':=@List.take_left'
theorem KU:type_of%@Prod.mk.injEq:=@Prod.mk.injEq
theorem Lr:type_of%@Array.getD_eq_getD_getElem?:=@Array.getD_eq_getD_getElem?
theorem LZ:type_of%@true_and:=@true_and
theorem L0:type_of%@Int.not_lt:=@Int.not_lt
theorem MB:type_of%@Nat.le_max_right:=@Nat.le_max_right
theorem MG:type_of%@List.extract_eq_take_drop:=@List.extract_eq_take_drop
theorem Nj:type_of%@Int.toNat_of_nonneg:=@Int.toNat_of_nonneg
theorem Nk:type_of%@List.reverse_append:=@List.reverse_append
theorem Nl:type_of%@List.filterMap_cons:=@List.filterMap_cons
theorem NF:type_of%@and_true:=@and_true
theorem NG:type_of%@List.map_drop:=@List.map_drop
theorem NH:type_of%@Nat.le_max_left:=@Nat.le_max_left
theorem NI:type_of%@List.drop_left':=@List.drop_left'
theorem Oz:type_of%@Nat.eq_zero_or_pos:=@Nat.eq_zero_or_pos
theorem O2:type_of%@Nat.le_mul_of_pos_right:=@Nat.le_mul_of_pos_right
theorem O3:type_of%@Int.eq_ofNat_of_zero_le:=@Int.eq_ofNat_of_zero_le
theorem Qg:type_of%@List.drop_zero:=@List.drop_zero
theorem Qh:type_of%@Array.size_append:=@Array.size_append
theorem Qi:type_of%@List.reverse_singleton:=@List.reverse_singleton
theorem Ru:type_of%@List.singleton_append:=@List.singleton_append
theorem Rv:type_of%@List.set_getElem_self:=@List.set_getElem_self
theorem Su:type_of%@Array.eq_empty_of_size_eq_zero:=@Array.eq_empty_of_size_eq_zero
theorem TJ:type_of%@Array.replicate_succ:=@Array.replicate_succ
theorem TK:type_of%@Array.replicate_zero:=@Array.replicate_zero
theorem TL:type_of%@List.drop_append_of_le_length:=@List.drop_append_of_le_length
theorem Wn:type_of%@List.toList_toArray:=@List.toList_toArray
theorem Wo:type_of%@List.flatten_append:=@List.flatten_append
theorem Wp:type_of%@List.append_toArray:=@List.append_toArray
theorem Wq:type_of%@List.length_reverse:=@List.length_reverse
theorem WT:type_of%@Nat.le_of_eq:=@Nat.le_of_eq
theorem WU:type_of%@Nat.le_of_lt:=@Nat.le_of_lt
theorem Zz:type_of%@Nat.lt_of_lt_of_le:=@Nat.lt_of_lt_of_le
theorem ZA:type_of%@List.find?_eq_none:=@List.find?_eq_none
theorem dQ:type_of%@List.getLast?_eq_getElem?:=@List.getLast?_eq_getElem?
theorem dY:type_of%@List.flatMap_cons:=@List.flatMap_cons
theorem dZ:type_of%@List.push_toArray:=@List.push_toArray
theorem kC:type_of%@Bool.not_true:=@Bool.not_true
theorem kD:type_of%@Bool.bne_true:=@Bool.bne_true
theorem tM:type_of%@Array.toList_map:=@Array.toList_map
theorem tN:type_of%@List.getElem?_cons_succ:=@List.getElem?_cons_succ
theorem tO:type_of%@Nat.lt_succ_self:=@Nat.lt_succ_self
theorem tP:type_of%@List.length_eq_zero_iff:=@List.length_eq_zero_iff
theorem db:type_of%@Nat.ne_of_lt:=@Nat.ne_of_lt
theorem dd:type_of%@Nat.zero_mul:=@Nat.zero_mul
theorem de:type_of%@Option.map_eq_some_iff:=@Option.map_eq_some_iff
theorem df:type_of%@Bool.true_or:=@Bool.true_or
theorem td:type_of%@Array.getElem?_modify:=@Array.getElem?_modify
theorem aCv:type_of%@Array.toList_extract:=@Array.toList_extract
theorem aIc:type_of%@List.take_succ_cons:=@List.take_succ_cons
theorem aId:type_of%@List.take_set_of_le:=@List.take_set_of_le
theorem aIe:type_of%@List.mem_map_of_mem:=@List.mem_map_of_mem
abbrev aSx:List UInt8:=[97,116,116,114,105,98,117,116,101,78,97,109,101,32,97,116,116,114,105,98,117,116,101,84,121,112,101,32,98,97,115,101,70,114,101,113,117,101,110,99,121,32,98,97,115,101,80,114,111,102,105,108,101,32,99,97,108,99,77,111,100,101,32,99,108,105,112,80,97,116,104,85,110,105,116,115,32,100,105,102,102,117,115,101,67,111,110,115,116,97,110,116,32,101,100,103,101,77,111,100,101,32,102,105,108,116,101,114,85,110,105,116,115,32,103,108,121,112,104,82,101,102,32,103,114,97,100,105,101,110,116,84,114,97,110,115,102,111,114,109,32,103,114,97,100,105,101,110,116,85,110,105,116,115,32,107,101,114,110,101,108,77,97,116,114,105,120,32,107,101,114,110,101,108,85,110,105,116,76,101,110,103,116,104,32,107,101,121,80,111,105,110,116,115,32,107,101,121,83,112,108,105,110,101,115,32,107,101,121,84,105,109,101,115,32,108,101,110,103,116,104,65,100,106,117,115,116,32,108,105,109,105,116,105,110,103,67,111,110,101,65,110,103,108,101,32,109,97,114,107,101,114,72,101,105,103,104,116,32,109,97,114,107,101,114,85,110,105,116,115,32,109,97,114,107,101,114,87,105,100,116,104,32,109,97,115,107,67,111,110,116,101,110,116,85,110,105,116,115,32,109,97,115,107,85,110,105,116,115,32,110,117,109,79,99,116,97,118,101,115,32,112,97,116,104,76,101,110,103,116,104,32,112,97,116,116,101,114,110,67,111,110,116,101,110,116,85,110,105,116,115,32,112,97,116,116,101,114,110,84,114,97,110,115,102,111,114,109,32,112,97,116,116,101,114,110,85,110,105,116,115,32,112,111,105,110,116,115,65,116,88,32,112,111,105,110,116,115,65,116,89,32,112,111,105,110,116,115,65,116,90,32,112,114,101,115,101,114,118,101,65,108,112,104,97,32,112,114,101,115,101,114,118,101,65,115,112,101,99,116,82,97,116,105,111,32,112,114,105,109,105,116,105,118,101,85,110,105,116,115,32,114,101,102,88,32,114,101,102,89,32,114,101,112,101,97,116,67,111,117,110,116,32,114,101,112,101,97,116,68,117,114,32,114,101,113,117,105,114,101,100,69,120,116,101,110,115,105,111,110,115,32,114,101,113,117,105,114,101,100,70,101,97,116,117,114,101,115,32,115,112,101,99,117,108,97,114,67,111,110,115,116,97,110,116,32,115,112,101,99,117,108,97,114,69,120,112,111,110,101,110,116,32,115,112,114,101,97,100,77,101,116,104,111,100,32,115,116,97,114,116,79,102,102,115,101,116,32,115,116,100,68,101,118,105,97,116,105,111,110,32,115,116,105,116,99,104,84,105,108,101,115,32,115,117,114,102,97,99,101,83,99,97,108,101,32,115,121,115,116,101,109,76,97,110,103,117,97,103,101,32,116,97,98,108,101,86,97,108,117,101,115,32,116,97,114,103,101,116,88,32,116,97,114,103,101,116,89,32,116,101,120,116,76,101,110,103,116,104,32,118,105,101,119,66,111,120,32,118,105,101,119,84,97,114,103,101,116,32,120,67,104,97,110,110,101,108,83,101,108,101,99,116,111,114,32,121,67,104,97,110,110,101,108,83,101,108,101,99,116,111,114,32,122,111,111,109,65,110,100,80,97,110]
abbrev aSy:List UInt8:=[97,100,100,114,101,115,115,32,97,112,112,108,101,116,32,97,114,101,97,32,97,114,116,105,99,108,101,32,97,115,105,100,101,32,98,97,115,101,32,98,97,115,101,102,111,110,116,32,98,103,115,111,117,110,100,32,98,108,111,99,107,113,117,111,116,101,32,98,111,100,121,32,98,114,32,98,117,116,116,111,110,32,99,97,112,116,105,111,110,32,99,101,110,116,101,114,32,99,111,108,32,99,111,108,103,114,111,117,112,32,100,100,32,100,101,116,97,105,108,115,32,100,105,114,32,100,105,118,32,100,108,32,100,116,32,101,109,98,101,100,32,102,105,101,108,100,115,101,116,32,102,105,103,99,97,112,116,105,111,110,32,102,105,103,117,114,101,32,102,111,111,116,101,114,32,102,111,114,109,32,102,114,97,109,101,32,102,114,97,109,101,115,101,116,32,104,49,32,104,50,32,104,51,32,104,52,32,104,53,32,104,54,32,104,101,97,100,32,104,101,97,100,101,114,32,104,103,114,111,117,112,32,104,114,32,104,116,109,108,32,105,102,114,97,109,101,32,105,109,103,32,105,110,112,117,116,32,107,101,121,103,101,110,32,108,105,32,108,105,110,107,32,108,105,115,116,105,110,103,32,109,97,105,110,32,109,97,114,113,117,101,101,32,109,101,110,117,32,109,101,116,97,32,110,97,118,32,110,111,101,109,98,101,100,32,110,111,102,114,97,109,101,115,32,110,111,115,99,114,105,112,116,32,111,98,106,101,99,116,32,111,108,32,112,32,112,97,114,97,109,32,112,108,97,105,110,116,101,120,116,32,112,114,101,32,115,99,114,105,112,116,32,115,101,97,114,99,104,32,115,101,99,116,105,111,110,32,115,101,108,101,99,116,32,115,111,117,114,99,101,32,115,116,121,108,101,32,115,117,109,109,97,114,121,32,116,97,98,108,101,32,116,98,111,100,121,32,116,100,32,116,101,109,112,108,97,116,101,32,116,101,120,116,97,114,101,97,32,116,102,111,111,116,32,116,104,32,116,104,101,97,100,32,116,105,116,108,101,32,116,114,32,116,114,97,99,107,32,117,108,32,119,98,114,32,120,109,112]
abbrev aSz:List UInt8:=[97,108,116,71,108,121,112,104,32,97,108,116,71,108,121,112,104,68,101,102,32,97,108,116,71,108,121,112,104,73,116,101,109,32,97,110,105,109,97,116,101,67,111,108,111,114,32,97,110,105,109,97,116,101,77,111,116,105,111,110,32,97,110,105,109,97,116,101,84,114,97,110,115,102,111,114,109,32,99,108,105,112,80,97,116,104,32,102,101,66,108,101,110,100,32,102,101,67,111,108,111,114,77,97,116,114,105,120,32,102,101,67,111,109,112,111,110,101,110,116,84,114,97,110,115,102,101,114,32,102,101,67,111,109,112,111,115,105,116,101,32,102,101,67,111,110,118,111,108,118,101,77,97,116,114,105,120,32,102,101,68,105,102,102,117,115,101,76,105,103,104,116,105,110,103,32,102,101,68,105,115,112,108,97,99,101,109,101,110,116,77,97,112,32,102,101,68,105,115,116,97,110,116,76,105,103,104,116,32,102,101,68,114,111,112,83,104,97,100,111,119,32,102,101,70,108,111,111,100,32,102,101,70,117,110,99,65,32,102,101,70,117,110,99,66,32,102,101,70,117,110,99,71,32,102,101,70,117,110,99,82,32,102,101,71,97,117,115,115,105,97,110,66,108,117,114,32,102,101,73,109,97,103,101,32,102,101,77,101,114,103,101,32,102,101,77,101,114,103,101,78,111,100,101,32,102,101,77,111,114,112,104,111,108,111,103,121,32,102,101,79,102,102,115,101,116,32,102,101,80,111,105,110,116,76,105,103,104,116,32,102,101,83,112,101,99,117,108,97,114,76,105,103,104,116,105,110,103,32,102,101,83,112,111,116,76,105,103,104,116,32,102,101,84,105,108,101,32,102,101,84,117,114,98,117,108,101,110,99,101,32,102,111,114,101,105,103,110,79,98,106,101,99,116,32,103,108,121,112,104,82,101,102,32,108,105,110,101,97,114,71,114,97,100,105,101,110,116,32,114,97,100,105,97,108,71,114,97,100,105,101,110,116,32,116,101,120,116,80,97,116,104]
abbrev aSA:List UInt8:=[97,112,112,108,101,116,32,99,97,112,116,105,111,110,32,104,116,109,108,32,109,97,114,113,117,101,101,32,111,98,106,101,99,116,32,116,97,98,108,101,32,116,100,32,116,101,109,112,108,97,116,101,32,116,104]
abbrev aSB:List UInt8:=[120,108,105,110,107,58,97,99,116,117,97,116,101,32,120,108,105,110,107,58,97,114,99,114,111,108,101,32,120,108,105,110,107,58,104,114,101,102,32,120,108,105,110,107,58,114,111,108,101,32,120,108,105,110,107,58,115,104,111,119,32,120,108,105,110,107,58,116,105,116,108,101,32,120,108,105,110,107,58,116,121,112,101]
abbrev aSC:List UInt8:=[116,101,109,112,108,97,116,101]
abbrev aSD:List UInt8:=[100,100,32,100,116,32,108,105,32,111,112,116,103,114,111,117,112,32,111,112,116,105,111,110,32,112,32,114,98,32,114,112,32,114,116,32,114,116,99]
abbrev aSE:List UInt8:=[99,97,112,116,105,111,110,32,99,111,108,103,114,111,117,112,32,116,98,111,100,121,32,116,100,32,116,102,111,111,116,32,116,104,32,116,104,101,97,100,32,116,114]
abbrev aSF:List UInt8:=[97,110,110,111,116,97,116,105,111,110,45,120,109,108]
abbrev aSG:List UInt8:=[116,97,98,108,101,32,116,98,111,100,121,32,116,102,111,111,116,32,116,104,101,97,100,32,116,114]
abbrev aSH:List UInt8:=[100,101,115,99,32,102,111,114,101,105,103,110,79,98,106,101,99,116,32,116,105,116,108,101]
abbrev aSI:List UInt8:=[116,97,98,108,101]
abbrev aSJ:List UInt8:=[98,117,116,116,111,110]
abbrev aSK:List UInt8:=[97,112,112,108,105,99,97,116,105,111,110,47,120,104,116,109,108,43,120,109,108]
abbrev aSL:List UInt8:=[104,116,109,108]
abbrev aSM:List UInt8:=[120,109,108,110,115,58,120,108,105,110,107]
abbrev aSN:List UInt8:=[99,97,112,116,105,111,110]
abbrev aSO:List UInt8:=[104,116,109,108,32,116,97,98,108,101,32,116,101,109,112,108,97,116,101]
abbrev aSP:List UInt8:=[102,111,114,101,105,103,110,79,98,106,101,99,116]
abbrev aSQ:List UInt8:=[120,108,105,110,107,58,97,114,99,114,111,108,101]
abbrev aSR:List UInt8:=[120,108,105,110,107,58,97,99,116,117,97,116,101]
abbrev aSS:List UInt8:=[109,105,32,109,110,32,109,111,32,109,115,32,109,116,101,120,116]
abbrev aST:List UInt8:=[111,112,116,103,114,111,117,112,32,111,112,116,105,111,110]
abbrev aSU:List UInt8:=[120,108,105,110,107,58,116,105,116,108,101]
abbrev aSV:List UInt8:=[120,109,108,58,115,112,97,99,101]
abbrev aSW:List UInt8:=[120,109,108,110,115]
abbrev aSX:List UInt8:=[111,112,116,103,114,111,117,112]
abbrev aSY:List UInt8:=[99,111,108,103,114,111,117,112]
abbrev aSZ:List UInt8:=[120,108,105,110,107,58,104,114,101,102]
abbrev aS0:List UInt8:=[120,108,105,110,107,58,114,111,108,101]
abbrev aS1:List UInt8:=[120,108,105,110,107,58,115,104,111,119]
abbrev aS2:List UInt8:=[120,108,105,110,107,58,116,121,112,101]
abbrev aS3:List UInt8:=[100,101,102,105,110,105,116,105,111,110,117,114,108]
abbrev aS4:List UInt8:=[120,109,108,58,108,97,110,103]
abbrev aS5:List UInt8:=[100,101,102,105,110,105,116,105,111,110,85,82,76]
abbrev aS6:List UInt8:=[116,102,111,111,116]
abbrev aS7:List UInt8:=[116,98,111,100,121]
abbrev aS8:List UInt8:=[116,104,101,97,100]
abbrev aS9:List UInt8:=[116,105,116,108,101]
abbrev aTa:List UInt8:=[111,112,116,105,111,110]
abbrev aTb:List UInt8:=[116,101,120,116,47,104,116,109,108]
abbrev aTc:List UInt8:=[120,108,105,110,107]
abbrev aTd:List UInt8:=[101,110,99,111,100,105,110,103]
abbrev aTe:List UInt8:=[102,114,97,109,101,115,101,116]
abbrev aTf:List UInt8:=[115,101,108,101,99,116]
abbrev aTg:List UInt8:=[109,97,114,113,117,101,101]
abbrev aTh:List UInt8:=[97,114,99,114,111,108,101]
abbrev aTi:List UInt8:=[97,99,116,117,97,116,101]
abbrev aTj:List UInt8:=[97,112,112,108,101,116]
abbrev aTk:List UInt8:=[111,98,106,101,99,116]
abbrev aTl:List UInt8:=[100,101,115,99]
abbrev aTm:List UInt8:=[104,101,97,100]
abbrev aTn:List UInt8:=[111,108,32,117,108]
abbrev aTo:List UInt8:=[115,112,97,99,101]
abbrev aTp:List UInt8:=[104,114,101,102]
abbrev aTq:List UInt8:=[114,111,108,101]
abbrev aTr:List UInt8:=[115,104,111,119]
abbrev aTs:List UInt8:=[116,121,112,101]
section
section
namespace Go.Am
abbrev As:=List UInt8
inductive Aa where
 |bool (b:Bool)
 |int (k:IntKind) (n:Int)
 |str (s:As)
 |ptr (p:Option (Nat×Nat))
 |CB (cells:List Aa)
 |sl (size:Nat) (Au:List (List Aa))
 |slnil
 |Ck (id off len size:Nat)
 |map (m:Option Nat)
 |func (fn:Fn) (first captured:List Aa)
 |nilFunc
 |iface (t:TypeId) (v:Aa)
 |nilIface
 |agg (cells:List Aa)
 |tuple (vs:List Aa)
 deriving Inhabited
mutual
def Aa.beq:Aa->Aa->Bool
 | .bool a,.bool b=>a==b
 | .int k a,.int l b=>k==l&&a==b
 | .str a,.str b=>a==b
 | .ptr a,.ptr b=>a==b
 | .CB a,.CB b=>Aa.Qm a b
 | .sl n a,.sl m b=>n==m&&Aa.Qn a b
 | .slnil,.slnil=>true
 | .Ck a b c d,.Ck a' b' c' d'=>a==a'&&b==b'&&c==c'&&d==d'
 | .map a,.map b=>a==b
 | .func f a b,.func f' a' b'=>f==f'&&Aa.Qm a a'&&Aa.Qm b b'
 | .nilFunc,.nilFunc=>true
 | .iface t a,.iface t' a'=>t==t'&&Aa.beq a a'
 | .nilIface,.nilIface=>true
 | .agg a,.agg b=>Aa.Qm a b
 | .tuple a,.tuple b=>Aa.Qm a b
 |_,_=>false
def Aa.Qm:List Aa->List Aa->Bool
 |[],[]=>true
 |a::x,b::y=>Aa.beq a b&&Aa.Qm x y
 |_,_=>false
def Aa.Qn:List (List Aa)->List (List Aa)->Bool
 |[],[]=>true
 |a::x,b::y=>Aa.Qm a b&&Aa.Qn x y
 |_,_=>false
end
def Aa.cells:Aa->List Aa
 | .agg cs=>cs
 | .tuple _=>[]
 |v=>[v]
inductive C6 where
 |cells (cs:List Aa)
 |map (es:List (Aa×Aa))
 |CH
 deriving Inhabited
abbrev Ag:=List C6
inductive uF where
 |copy (size:Nat)
 |clear (size:Nat) (zero:List Aa)
 |p8 (size:Nat) (lo hi:Bool)
 |eB (size:Nat)
 |aDd (t:TypeId)
 |dx (zero:Aa) (ok:Bool)
 |MH (zero:Aa)
 |LK
 |p9
 |PF (g:Ag->List Aa->Option (Ag×Aa))
def uF.aDe:uF->Bool
 | .eB _| .clear _ _| .LK=>true
 |_=>false
inductive D9 where
 |undef
 |skip
 |val (v:Aa)
 |Nv (b:Bool)
 |own (v:Aa)
 |box (ver:Nat) (cells:List Aa) (own:List Nat)
 |EI (s off:Nat)
 deriving Inhabited
abbrev BG:=List D9
def BG.at(σ:BG)(s:Nat):D9:=σ.getD s .undef
def D9.Gt:D9->Option Aa
 | .val v| .own v=>some v
 | .Nv b=>some (.bool b)
 |_=>none
inductive FK where
 |b|i|s
 deriving DecidableEq,Inhabited
inductive NK where
 |sl|fn|mp
 deriving DecidableEq,Inhabited
inductive We where
 |int (op:BinOp)
 |str (op:BinOp)
 |beq (neg:Bool)
 |geq (neg:Bool) (ks:List FK)
 |Tb (neg:Bool)
 |Gp (neg:Bool) (k:NK)
 |un (op:UnOp)
 |conv(k:IntKind)
 |pick
 |part (off:Nat) (n:Option Nat)
 |xr (len size:Nat) (n:Option Nat)
 |Rw
 |Ec (off:Nat)
 |EE (size:Nat)
 |Uc (len size:Nat)
 |len (isStr:Bool)
 |append (size bytes:Nat)
 |Hv (size:Nat) (isStr lo hi:Bool)
 |ext (i:Nat)
 |KV
 |By (size:Nat)
 |Bs (zero:List Aa) (places:List (Nat×Nat))
 |Kn (isMax:Bool)
 |Tc
 |s2b
 |i2s
 deriving Inhabited
def NJ:Value->Option Aa
 | .bool b=>some (.bool b)
 | .int k n=>some (.int k n)
 | .string s=>some (.str s.data.toList)
 | .pointer none=>some (.ptr none)
 | .slice none 0 0=>some .slnil
 | .map none=>some (.map none)
 | .func fn f c=>if f.size=0/\c.size=0 then some (.func fn [] []) else none
 | .nilFunc=>some .nilFunc
 | .nilIface=>some .nilIface
 |_=>none
def KN:List Value->Option (List Aa)
 |[]=>some []
 |v::vs=>match NJ v,KN vs with
  |some a,some as=>some (a::as)
  |_,_=>none
def JU:Value->Option Aa
 | .agg cs=>(KN cs.toList).map .agg
 |v=>NJ v
def OA:Sem Value->Option Value
 | .pure v=>some v
 |_=>none
def AT:Nat:=140737488355328
def kE(op:BinOp)(k:IntKind)(a:Int)(l:IntKind)(b:Int):Option Aa:=
 (OA (binOp op 0 (.int k a) (.int l b))).bind λv=>match v with
  | .int k n=>some (.int k n)
  | .bool b=>some (.bool b)
  |_=>none
def WV(op:BinOp)(a b:As):Option Aa:=
 match op with
 | .add=>if a.length+b.length<=9223372036854775807 then some (.str (a++b)) else none
 | .eql=>some (.bool (a==b))
 | .neq=>some (.bool (!(a==b)))
 | .lss=>some (.bool (Op.bytesLess a b))
 | .leq=>some (.bool (Op.bytesLess a b||a==b))
 | .gtr=>some (.bool (!(Op.bytesLess a b||a==b)))
 | .geq=>some (.bool (!(Op.bytesLess a b)))
 |_=>none
def Ko:FK->Aa->Aa->Option Bool
 | .b,.bool a,.bool b=>some (a==b)
 | .i,.int k a,.int l b=>if k=l then some (a==b) else none
 | .s,.str a,.str b=>some (a==b)
 |_,_,_=>none
def DC:List FK->List Aa->List Aa->Option Bool
 |[],[],[]=>some true
 |k::ks,a::x,b::y=>match Ko k a b,DC ks x y with
  |some e,some es=>some (e&&es)
  |_,_=>none
 |_,_,_=>none
def kF:Aa->Aa->Option Bool
 | .ptr none,.ptr b=>some b.isNone
 | .ptr (some _),.ptr none=>some false
 | .ptr (some a),.ptr (some b)=>if a=b then some true else none
 | .ptr none,.CB _=>some false
 | .CB _,.ptr none=>some false
 |_,_=>none
def kG:NK->Aa->Aa->Option Bool
 | .sl,.slnil,.slnil=>some true
 | .sl,.slnil,.sl _ _=>some false
 | .sl,.sl _ _,.slnil=>some false
 | .sl,.slnil,.Ck _ _ _ _=>some false
 | .sl,.Ck _ _ _ _,.slnil=>some false
 | .fn,.nilFunc,.nilFunc=>some true
 | .fn,.nilFunc,.func _ _ _=>some false
 | .fn,.func _ _ _,.nilFunc=>some false
 | .mp,.map none,.map b=>some b.isNone
 | .mp,.map (some _),.map none=>some false
 |_,_,_=>none
def ER(cs:List Aa)(off:Nat):Option Nat->Option Aa
 |none=>cs[off]?
 |some n=>if off+n<=cs.length then some (.agg ((cs.drop off).take n)) else none
def L4(n:Int)(len:Nat):Option Nat:=if 0<=n/\n<len then some n.toNat else none
def EM(n:Int)(top:Nat):Option Nat:=if 0<=n/\n<=top then some n.toNat else none
def DJ(lo hi:Bool)(len:Nat)(as:List Aa):Option (Nat×Nat):=
 match lo,hi with
 |false,false=>match as with
  |[]=>some (0,len)
  |_=>none
 |false,true=>match as with
  |[.int _ h]=>(EM h len).map λh=>(0,h)
  |_=>none
 |true,false=>match as with
  |[.int _ l]=>(EM l len).map λl=>(l,len)
  |_=>none
 |true,true=>match as with
  |[.int _ l,.int _ h]=>(EM h len).bind λh=>(EM l h).map λl=>(l,h)
  |_=>none
def Lu:List (List Aa)->Option As
 |[]=>some []
 |[.int .u8 n]::rs=>(Lu rs).map λl=>n.toNat.toUInt8::l
 |_=>none
def B1(s:As):List (List Aa):=s.map λb=>[.int .u8 b.toNat]
def DP(size bytes:Nat)(s:Aa)(Au:List (List Aa)):Option Aa:=
 match Au with
 |[]=>match s with
  | .slnil=>some .slnil
  | .sl z r=>if z=size then some (.sl z r) else none
  |_=>none
 |Au=>match s with
  | .slnil=>if Au.length*bytes<=AT then some (.sl size Au) else none
  | .sl z r=>if z=size/\(r.length+Au.length)*bytes<=AT then some (.sl size (r++Au)) else none
  |_=>none
def AK(cs:List Aa):List ((Nat×Nat)×Aa)->Option (List Aa)
 |[]=>some cs
 |((off,size),v)::rest=>if 0<size/\v.cells.length=size/\off+size<=cs.length then AK (cs.take off++v.cells++cs.drop (off+size)) rest else none
def tg(k:IntKind)(n:Int):Option Aa:=
 (OA (Op.unary .xor (.int k n))).bind λv=>match v with
  | .int k n=>some (.int k n)
  |_=>none
def xt:UnOp->Aa->Option Aa
 | .not,.bool b=>some (.bool (!b))
 | .neg,.int k n=>some (.int k (k.wrap (0 -n)))
 | .xor,.int k n=>tg k n
 |_,_=>none
def WW(p:Aa)(off:Nat):Option Aa:=
 match p with
 | .CB cs=>some (.CB (cs.drop off))
 | .ptr (some (id,o))=>some (.ptr (some (id,o+off)))
 |_=>none
def elemOf(size:Nat)(s:Aa)(i:Int):Option Aa:=
 match s with
 | .sl z Au=>if z=size then(if 0<=i then(Au[i.toNat]?).map .CB else none) else none
 | .Ck id off len z=>if z=size then(L4 i len).map λi=> .ptr (some (id,off+i*size)) else none
 |_=>none
def lenOf(isStr:Bool)(s:Aa):Option Aa:=
 match s with
 | .sl _ Au=>if isStr then none else some (.int .i64 Au.length)
 | .Ck _ _ n _=>if isStr then none else some (.int .i64 n)
 | .slnil=>if isStr then none else some (.int .i64 0)
 | .str s=>if isStr then some (.int .i64 s.length) else none
 |_=>none
def HF(size bytes:Nat)(s x:Aa):Option Aa:=
 match x with
 | .slnil=>DP size bytes s []
 | .sl z Au=>if z=size then DP size bytes s Au else none
 | .str x=>if size=1 then DP size bytes s (B1 x) else none
 |_=>none
def Ja(size:Nat)(isStr lo hi:Bool)(s:Aa)(as:List Aa):Option Aa:=
 match s with
 | .str s=>if isStr then(DJ lo hi s.length as).map λ(l,h)=> .str ((s.take h).drop l) else none
 | .sl z Au=>if isStr=false/\z=size then(DJ lo hi Au.length as).map λ(l,h)=> .sl z ((Au.take h).drop l) else none
 | .Ck id off n z=>if isStr=false/\z=size then(DJ lo hi n as).bind λ(l,h)=>if l<n then some (.Ck id (off+l*z) (h-l) z) else some (.sl z []) else none
 | .slnil=>if isStr then none else(DJ lo hi 0 as).map λ_=> .slnil
 |_=>none
def ZM:Aa->Option Aa
 | .ptr (some p)=>some (.ptr (some p))
 | .CB cs=>some (.CB cs)
 | .func (.func f) a b=>some (.func (.func f) a b)
 |_=>none
def Ud:Aa->Option Aa
 | .sl 1 Au=>(Lu Au).map .str
 | .slnil=>some (.str [])
 |_=>none
def Aw(p:We)(args:List Aa):Option Aa:=
 match p with
 | .int op=>match args with
  |[.int k a,.int l b]=>kE op k a l b
  |_=>none
 | .str op=>match args with
  |[.str a,.str b]=>WV op a b
  |_=>none
 | .beq neg=>match args with
  |[.bool a,.bool b]=>some (.bool ((a==b) != neg))
  |_=>none
 | .geq neg ks=>match args with
  |[.agg a,.agg b]=>(DC ks a b).map λe=> .bool (e != neg)
  |_=>none
 | .Tb neg=>match args with
  |[a,b]=>(kF a b).map λe=> .bool (e != neg)
  |_=>none
 | .Gp neg k=>match args with
  |[a,b]=>(kG k a b).map λe=> .bool (e != neg)
  |_=>none
 | .un op=>match args with
  |[v]=>xt op v
  |_=>none
 | .conv k=>match args with
  |[.int _ n]=>some (.int k (k.wrap n))
  |_=>none
 | .i2s=>match args with
  |[.int _ n]=>some (.str (Utf8.encode n).data.toList)
  |_=>none
 | .pick=>match args with
  |[.bool c,a,b]=>some (if c then a else b)
  |_=>none
 | .part off n=>match args with
  |[.agg cs]=>ER cs off n
  |_=>none
 | .xr len size n=>match args with
  |[.agg cs,.int _ i]=>(L4 i len).bind λi=>ER cs (i*size) n
  |_=>none
 | .Rw=>match args with
  |[.str s,.int _ i]=>if 0<=i then(s[i.toNat]?).map λb=> .int .u8 b.toNat else none
  |_=>none
 | .Ec off=>match args with
  |[p]=>WW p off
  |_=>none
 | .EE size=>match args with
  |[s,.int _ i]=>elemOf size s i
  |_=>none
 | .Uc len size=>match args with
  |[p,.int _ i]=>(L4 i len).bind λi=>WW p (i*size)
  |_=>none
 | .len isStr=>match args with
  |[s]=>lenOf isStr s
  |_=>none
 | .append size bytes=>match args with
  |[s,x]=>HF size bytes s x
  |_=>none
 | .Hv size isStr lo hi=>match args with
  |s::as=>Ja size isStr lo hi s as
  |_=>none
 | .ext i=>match args with
  |[.tuple vs]=>vs[i]?
  |_=>none
 | .KV=>match args with
  |[v]=>ZM v
  |_=>none
 | .By size=>if args.all (λa=>a.cells.length==size)&&decide (args.length*size<=16777216) then some (.sl size (args.map (·.cells))) else none
 | .Bs zero places=>if places.length=args.length then(AK zero (places.zip args)).map .agg else none
 | .Kn isMax=>match args with
  |[.int k a,.int l b]=>if k=l then some (.int k (if isMax then(if b>a then b else a) else(if b<a then b else a))) else none
  |_=>none
 | .Tc=>match args with
  |[v]=>Ud v
  |_=>none
 | .s2b=>match args with
  |[.str s]=>if s.length<=AT then some (.sl 1 (B1 s)) else none
  |_=>none
inductive EN where
 |normal
 |exit (id:Nat)
 |ret
 deriving DecidableEq,Inhabited
inductive IT where
 |ret (x:EN) (vs:List Aa)
 |fail
 |op (o:We) (args:List Aa) (k:Aa->IT)
 |cells (n:Nat) (v:Aa) (k:List Aa->IT)
 |AJ (c:Aa) (t e:IT)
 |load (n:Option Nat) (p:Aa) (k:Aa->IT)
 |store (n:Nat) (p v:Aa) (k:IT)
 |alloc (n:Nat) (v:Aa) (k:Aa->IT)
 |call (f:FuncId) (args:List Aa) (k:Aa->IT)
 |FH (fn:Aa) (args:List Aa) (k:Aa->IT)
 |Bk (f:FuncId) (args:List Aa) (k:Aa->IT)
 |loop (key:Nat) (init:List Aa) (body:List Aa->IT) (k:EN->List Aa->IT)
 |Di (key:Nat) (t:IT) (k:EN->List Aa->IT)
 |same (a b:Aa) (k:IT)
 |O4 (k:Aa->IT)
 |J4 (m key v:Aa) (k:IT)
 |L5 (zero:Aa) (ok:Bool) (m key:Aa) (k:Aa->IT)
 |make (size bytes:Nat) (zero:List Aa) (len cap:Aa) (k:Aa->IT)
 |Hw (size bytes:Nat) (s x:Aa) (k:Aa->IT)
 |Fb (s:Aa) (k:Aa->IT)
 |KW (v:Aa) (k:Aa->IT)
 |Hy (off:Nat) (p:Aa) (k:IT)
 |Fs (size bytes:Nat) (s x:Aa) (k:Aa->IT)
 |FX (size bytes:Nat) (s x:Aa) (k:Aa->IT)
 |mem (o:uF) (args:List Aa) (k:Aa->IT)
 |uG (f:FuncId) (args:List Aa) (k:Aa->IT)
 deriving Inhabited
def Aa.Ls:Aa->Bool
 | .bool _| .int _ _| .str _=>true
 |_=>false
def A9(h:Ag)(n:Option Nat):Aa->Option Aa
 | .CB cs=>ER cs 0 n
 | .ptr (some (id,off))=>match h[id]? with
  |some (.cells cs)=>ER cs off n
  |_=>none
 |_=>none
def Cd(h:Ag)(n:Nat)(p v:Aa):Option Ag:=
 match p with
 | .ptr (some (id,off))=>match h[id]? with
  |some (.cells cs)=>if v.cells.length=n/\off+n<=cs.length then some (h.set id (.cells (cs.take off++v.cells++cs.drop (off+n)))) else none
  |_=>none
 |_=>none
def X2(h:Ag)(n:Nat)(v:Aa):Option (Ag×Aa):=
 if v.cells.length=n then some (h++[.cells v.cells],.ptr (some (h.length,0))) else none
def Ue(s:As):List (Aa×Aa)->Option (Option Aa)
 |[]=>some none
 |(.str t,v)::es=>if s=t then some (some v) else Ue s es
 |_=>none
def Nw(s:As)(v:Aa):List (Aa×Aa)->Option (List (Aa×Aa))
 |[]=>some [(.str s,v)]
 |(.str t,v')::es=>if s=t then some ((.str s,v)::es) else(Nw s v es).map λes=>(.str t,v')::es
 |_=>none
def Sv(h:Ag)(m k v:Aa):Option Ag:=
 match m,k with
 | .map (some id),.str s=>match h[id]? with
  |some (.map es)=>(Nw s v es).map λes=>h.set id (.map es)
  |_=>none
 |_,_=>none
def Uf(h:Ag)(m k:Aa):Option (Option Aa):=
 match m,k with
 | .map none,.str _=>some none
 | .map (some id),.str s=>match h[id]? with
  |some (.map es)=>Ue s es
  |_=>none
 |_,_=>none
def Sw(h:Ag)(zero:Aa)(ok:Bool)(m k:Aa):Option Aa:=
 (Uf h m k).map λr=>match r with
  |some v=>if ok then .tuple [v,.bool true] else v
  |none=>if ok then .tuple [zero,.bool false] else zero
def Ug(h:Ag)(size bytes:Nat)(zero:List Aa):Aa->Aa->Option (Ag×Aa)
 | .int .i64 n,.int .i64 c=>if 0<=n/\n<=c/\c.toNat*bytes<=AT/\zero.length=size then
  some (h++[.cells (List.replicate c.toNat zero).flatten],.Ck h.length 0 n.toNat size) else none
 |_,_=>none
def NL(size:Nat):Aa->Bool
 | .slnil=>true
 | .sl z []=>z==size
 |_=>false
def IG(h:Ag)(size bytes:Nat)(s:Aa):Aa->Option (Ag×Aa)
 | .sl z Au=>if NL size s then(match Au with
   |[]=>some (h,s)
   |Au=>if z=size/\Au.length*bytes<=AT then some (h++[.cells Au.flatten],.Ck h.length 0 Au.length size) else none)
  else none
 | .slnil=>if NL size s then some (h,s) else none
 |_=>none
def IQ(h:Ag):Aa->Option (Ag×Aa)
 | .str s=>if s.length<=AT then some (h++[.cells (s.map λb=> .int .u8 b.toNat)],.Ck h.length 0 s.length 1) else none
 |_=>none
def Cm(cs:List Aa)(z:Nat):Nat->Nat->List (List Aa)
 |_,0=>[]
 |off,n+1=>(cs.drop off).take z::Cm cs z (off+z) n
def Kp(h:Ag):Aa->Option (Ag×Aa)
 | .Ck id off n z=>match h[id]? with
  |some (.cells cs)=>if off+n*z<=cs.length then some (h.set id .CH,.sl z (Cm cs z off n)) else none
  |_=>none
 |v=>some (h,v)
def KX(h:Ag)(off:Nat)(p:Aa):Option Ag:=
 match p with
 | .ptr none=>some h
 | .ptr (some (id,o))=>match h[id]? with
  |some (.cells cs)=>match cs[o+off]? with
   |some v=>(Kp h v).bind λ(h',v')=>match h'[id]? with
    |some (.cells FI)=>some (h'.set id (.cells (FI.set (o+off) v')))
    |_=>none
   |none=>none
  |_=>none
 |_=>none
def Ft(h:Ag)(size:Nat):Aa->Option (List (List Aa))
 | .slnil=>some []
 | .sl z Au=>if z=size then some Au else none
 | .str s=>if size=1 then some (B1 s) else none
 | .Ck id off n z=>if z=size then match h[id]? with
   |some (.cells cs)=>if off+n*z<=cs.length then some (Cm cs z off n) else none
   |_=>none
  else none
 |_=>none
def Fl(h:Ag)(size bytes:Nat)(s x:Aa):Option (Ag×Aa):=
 match Ft h size x with
 |none=>none
 |some []=>match s with
  | .slnil=>some (h,s)
  | .Ck _ _ _ z=>if z=size then some (h,s) else none
  |_=>none
 |some Au=>match s with
  | .slnil=>if Au.length*bytes<=AT then some (h++[.cells Au.flatten],.Ck h.length 0 Au.length size) else none
  | .Ck id off n z=>match h[id]? with
   |some (.cells cs)=>if z=size then
     (if off+(n+Au.length)*z<=cs.length then some (h.set id (.cells (cs.take (off+n*z)++Au.flatten++cs.drop (off+(n+Au.length)*z))),.Ck id off (n+Au.length) z)
     else if off=0/\n*z<=cs.length/\(n+Au.length)*bytes<=AT then some (h.set id .CH++[.cells (cs.take (n*z)++Au.flatten)],.Ck h.length 0 (n+Au.length) z) else none)
    else none
   |_=>none
  |_=>none
def Pc(h:Ag)(size bytes:Nat)(s x:Aa):Option Aa:=(Ft h size x).bind (DP size bytes s)
def ZN(h:Ag)(size:Nat)(d x:Aa):Option (Ag×Aa):=
 match Ft h size x with
 |none=>none
 |some Au=>match d with
  | .slnil=>if Au.length=0 then some (h,.int .i64 0) else none
  | .Ck id off n z=>match h[id]? with
   |some (.cells cs)=>if z=size/\Au.length<=n/\off+n*z<=cs.length then some (h.set id (.cells (cs.take off++Au.flatten++cs.drop (off+Au.length*z))),.int .i64 Au.length) else none
   |_=>none
  |_=>none
def Uh(h:Ag)(size:Nat)(zero:List Aa):Aa->Option (Ag×Aa)
 | .slnil=>some (h,.bool true)
 | .Ck id off n z=>match h[id]? with
  |some (.cells cs)=>if z=size/\zero.length=size/\off+n*z<=cs.length then some (h.set id (.cells (cs.take off++(List.replicate n zero).flatten++cs.drop (off+n*z))),.bool true) else none
  |_=>none
 |_=>none
def ZO(h:Ag)(size:Nat)(lo hi:Bool)(s:Aa)(as:List Aa):Option (Ag×Aa):=
 match s with
 | .Ck id off n z=>match h[id]? with
  |some (.cells cs)=>if z=size/\hi=true/\off<=cs.length then(DJ lo hi ((cs.length-off)/z) as).bind λ(l,r)=>if l<(cs.length-off)/z then some (h,.Ck id (off+l*z) (r-l) z) else none else none
  |_=>none
 |_=>none
def Ui(size:Nat):List Aa->Bool
 |[s,.int _ l,.int _ r,.int _ m]=>match s with
  | .Ck _ _ n z=>z=size&&decide (0<=l)&&decide (l<=r)&&decide (r<=m)&&decide (m<=n)
  | .sl z Au=>z=size&&decide (0<=l)&&decide (l<=r)&&decide (r<=m)&&decide (m<=Au.length)
  |_=>false
 |_=>false
def Kq(k:Int):List (Aa×Aa)->Nat->Option (Option (Nat×Aa))
 |[],_=>some none
 |(.int .i64 t,v)::es,i=>if k=t then some (some (i,v)) else Kq k es (i+1)
 |_,_=>none
def eC(zero:Aa)(ok:Bool):Option (Nat×Aa)->Aa
 |some (_,v)=>if ok then .tuple [v,.bool true] else v
 |none=>if ok then .tuple [zero,.bool false] else zero
def kH(h:Ag)(zero:Aa)(ok:Bool)(m k:Aa):Option (Ag×Aa):=
 match m,k with
 | .map none,.int .i64 _=>some (h,eC zero ok none)
 | .map (some id),.int .i64 n=>match h[id]? with
  |some (.map es)=>(Kq n es 0).map λr=>(h,eC zero ok r)
  |_=>none
 |_,_=>none
def TM(h:Ag)(zero m k:Aa):Option (Ag×Aa):=
 match m,k with
 | .map (some id),.int .i64 n=>match h[id]? with
  |some (.map es)=>(Kq n es 0).map λr=>match r with
   |some (i,v)=>(h,.tuple [v,.int .i64 i])
   |none=>(h.set id (.map (es++[(k,zero)])),.tuple [zero,.int .i64 es.length])
  |_=>none
 |_,_=>none
def TN(h:Ag)(m i v:Aa):Option (Ag×Aa):=
 match m,i with
 | .map (some id),.int .i64 n=>match h[id]? with
  |some (.map es)=>if 0<=n then match es[n.toNat]? with
   |some (k,_)=>some (h.set id (.map (es.set n.toNat (k,v))),.bool true)
   |none=>none
   else none
  |_=>none
 |_,_=>none
def OB(h:Ag):List Aa->Option (Ag×Aa)
 |[.slnil,.int .i64 i,.sl 1 [[.int .i64 x]]]=>if i=0 then some (h++[.cells [.int .i64 x]],.Ck h.length 0 1 1) else none
 |[.Ck id 0 n 1,.int .i64 i,.sl 1 [[.int .i64 x]]]=>match h[id]? with
  |some (.cells cs)=>if 0<=i/\i.toNat<=n/\n<=cs.length/\(n+1)*8<=AT then some (h.set id .CH++[.cells (cs.take i.toNat++[.int .i64 x]++(cs.take n).drop i.toNat)],.Ck h.length 0 (n+1) 1) else none
  |_=>none
 |_=>none
def Ed(o:uF)(h:Ag)(args:List Aa):Option (Ag×Aa):=
 match o with
 | .copy size=>match args with
  |[d,x]=>ZN h size d x
  |_=>none
 | .clear size zero=>match args with
  |[s]=>Uh h size zero s
  |_=>none
 | .p8 size lo hi=>match args with
  |s::as=>ZO h size lo hi s as
  |_=>none
 | .eB size=>if Ui size args then some (h,.bool true) else none
 | .aDd t=>match args with
  |[v]=>some (h,.iface t v)
  |_=>none
 | .dx zero ok=>match args with
  |[m,k]=>kH h zero ok m k
  |_=>none
 | .MH zero=>match args with
  |[m,k]=>TM h zero m k
  |_=>none
 | .LK=>match args with
  |[m,i,v]=>TN h m i v
  |_=>none
 | .p9=>OB h args
 | .PF g=>g h args
def Ea(f:FuncId):FuncId:=if f<=99999 then f else f%100000
def Dt:Aa->List Aa->Option (FuncId×List Aa)
 | .func (.func f) first captured,args=>if f<=99999 then some (f,first++args++captured) else none
 |_,_=>none
abbrev Js:=EN×List Aa×Ag
def IT.step(fn:FuncId->List Aa->IT)(rec:IT->Ag->Option Js):IT->Ag->Option Js
 | .ret x vs,h=>some (x,vs,h)
 | .fail,_=>none
 | .op o args k,h=>match Aw o args with
  |some v=>IT.step fn rec (k v) h
  |none=>none
 | .cells n v k,h=>if v.cells.length=n then IT.step fn rec (k v.cells) h else none
 | .AJ c t e,h=>match c with
  | .bool true=>IT.step fn rec t h
  | .bool false=>IT.step fn rec e h
  |_=>none
 | .load n p k,h=>match A9 h n p with
  |some v=>IT.step fn rec (k v) h
  |none=>none
 | .store n p v k,h=>match Cd h n p v with
  |some h'=>IT.step fn rec k h'
  |none=>none
 | .alloc n v k,h=>match X2 h n v with
  |some (h',p)=>IT.step fn rec (k p) h'
  |none=>none
 | .call f args k,h=>match rec (fn f args) h with
  |some (.ret,[r],h')=>IT.step fn rec (k r) h'
  |_=>none
 | .FH g args k,h=>match Dt g args with
  |some (f,args)=>match rec (fn f args) h with
   |some (.ret,[r],h')=>IT.step fn rec (k r) h'
   |_=>none
  |none=>none
 | .Bk f args k,h=>if args.all Aa.Ls then match rec (fn f args) [] with
   |some (.ret,[r],_)=>if r.Ls then IT.step fn rec (k r) h else none
   |_=>none
  else none
 | .loop key init body k,h=>match IT.step fn rec (body init) h with
  |some (.normal,vs,h')=>rec (.loop key vs body k) h'
  |some (x,vs,h')=>IT.step fn rec (k x vs) h'
  |none=>none
 | .Di _ t k,h=>match IT.step fn rec t h with
  |some (x,vs,h')=>IT.step fn rec (k x vs) h'
  |none=>none
 | .same a b k,h=>if Aa.beq a b then IT.step fn rec k h else none
 | .O4 k,h=>IT.step fn rec (k (.map (some h.length))) (h++[.map []])
 | .J4 m key v k,h=>match Sv h m key v with
  |some h'=>IT.step fn rec k h'
  |none=>none
 | .L5 zero ok m key k,h=>match Sw h zero ok m key with
  |some v=>IT.step fn rec (k v) h
  |none=>none
 | .make size bytes zero len cap k,h=>match Ug h size bytes zero len cap with
  |some (h',v)=>IT.step fn rec (k v) h'
  |none=>none
 | .Hw size bytes s x k,h=>match IG h size bytes s x with
  |some (h',v)=>IT.step fn rec (k v) h'
  |none=>none
 | .Fb s k,h=>match IQ h s with
  |some (h',v)=>IT.step fn rec (k v) h'
  |none=>none
 | .KW v k,h=>match Kp h v with
  |some (h',v')=>IT.step fn rec (k v') h'
  |none=>none
 | .Hy off p k,h=>match KX h off p with
  |some h'=>IT.step fn rec k h'
  |none=>none
 | .Fs size bytes s x k,h=>match Fl h size bytes s x with
  |some (h',v)=>IT.step fn rec (k v) h'
  |none=>none
 | .FX size bytes s x k,h=>match Pc h size bytes s x with
  |some v=>IT.step fn rec (k v) h
  |none=>none
 | .mem o args k,h=>match Ed o h args with
  |some (h',v)=>IT.step fn rec (k v) h'
  |none=>none
 | .uG f args k,h=>match rec (fn f args) [] with
  |some (.ret,[r],_)=>if r.Ls then IT.step fn rec (k r) h else none
  |_=>none
def IT.run(fn:FuncId->List Aa->IT):Nat->IT->Ag->Option Js
 |0=>λ_ _=>none
 |n+1=>IT.step fn (IT.run fn n)
end Go.Am
end
section
namespace Go.Am
inductive Sh where
 |val
 |own
 |box (n:Nat) (own:List Nat)
 deriving Inhabited
inductive kI where
 |NM|heap
 deriving DecidableEq,Inhabited
structure FJ where
 P:Program
 xu:FuncId->Nat->List (Nat×Sh)
 th:FuncId->Nat->Option (List (Nat×Sh))
 tj:FuncId->Nat->Option (List (Nat×Sh))
 kind:FuncId->Nat->kI
 Io:FuncId->Bool
 tk:FuncId->Bool
 uH:FuncId->Nat->Bool
 Rx:FuncId->Nat->Bool
 uI:FuncId->Bool
 uJ:FuncId->List (Nat×Nat)
 Gg:Nat->Option (List Aa)
 xw:FuncId->Option (List Aa->IT)
 alt:FuncId->FuncId->FuncId
 L1:FuncId->Bool
inductive Et where
 |pure (ws:List (Nat×D9))
 |op (p:We) (args:List Aa) (dst:Option Nat) (own:Bool) (Dn:Option (Nat×Aa))
 |box (n:Nat) (v:Aa) (dst:Nat)
 |KF (fn:Fn) (first captured:List Aa) (froze:List (Nat×List Aa)) (dst:Nat)
 |LL (s off n:Nat) (v:Aa) (own:Bool) (Dn:Option (Nat×Aa)) (ver:Nat) (cells:List Aa) (owned:List Nat)
 |load (n:Option Nat) (p:Aa) (dst:Option Nat)
 |store (n:Nat) (p v:Aa)
 |alloc (n:Nat) (v:Aa) (dst:Option Nat)
 |call (f:FuncId) (args:List Aa) (dst:Option Nat)
 |FH (g:Aa) (args:List Aa) (dst:Option Nat)
 |Bk (f:FuncId) (args:List Aa) (dst:Option Nat)
 |O4 (dst:Option Nat)
 |J4 (m k v:Aa)
 |L5 (zero:Aa) (ok:Bool) (m k:Aa) (dst:Option Nat)
 |make (size bytes:Nat) (zero:List Aa) (len cap:Aa) (dst:Option Nat)
 |Hw (size bytes:Nat) (s x:Aa) (dst:Option Nat) (Dn:Option (Nat×Aa))
 |Fs (size bytes:Nat) (s x:Aa) (dst:Option Nat)
 |FX (size bytes:Nat) (s x:Aa) (dst:Option Nat) (Dn:Option (Nat×Aa))
 |Fb (s:Aa) (dst:Option Nat)
 |Tc (v:Aa) (dst:Option Nat)
 |mem (o:uF) (args:List Aa) (dst:Option Nat)
def BQ(P:Program)(t:TypeId):Option Nat:=(P.info? t).map (·.size)
def Jb(P:Program)(t:TypeId):Option Nat:=(P.info? t).map (·.bytes)
def EP(P:Program)(t:TypeId):Option (Option Nat):=
 match P.underlying t with
 |some (.struct _)|some (.array _ _)=>(BQ P t).map some
 |some _=>some none
 |none=>none
def GO(P:Program)(t:TypeId):Option Aa:=((P.info? t).bind (·.zero)).bind JU
def Uj(rec:TypeId->Option (List FK)):List Field->Nat->Option (List FK)
 |[],_=>some []
 |f::fs,off=>if f.name≠ "_"/\f.offset=off then match rec f.type with
   |some ks=>(Uj rec fs (off+ks.length)).map (ks++·)
   |none=>none
  else none
def NN(P:Program):Nat->TypeId->Option (List FK)
 |0,_=>none
 |d+1,t=>
  let one (k:FK):Option (List FK):=if BQ P t=some 1 then some [k] else none
  match P.underlying t with
  |some .bool=>one .b
  |some (.int _)=>one .i
  |some .string=>one .s
  |some (.struct fs)=>match Uj (NN P d) fs.toList 0 with
   |some ks=>if BQ P t=some ks.length/\P.stoodInHeld t=false then some ks else none
   |none=>none
  |_=>none
def HG(P:Program)(s:TypeId)(f:Nat):Option (Nat×Option Nat):=
 match P.underlying s with
 |some (.struct fs)=>match fs[f]? with
  |some fd=>match BQ P fd.type,EP P fd.type with
   |some (_+1),some sh=>some (fd.offset,sh)
   |_,_=>none
  |none=>none
 |_=>none
def DL(C:FJ)(σ:BG):Operand->Option D9
 | .tmp t=>some (σ.at t)
 | .const (.bool b)=>some (.Nv b)
 | .const (.slice none 0 0)=>some (.own .slnil)
 | .const v=>(JU v).map .val
 | .global g=>(C.Gg g).map λcs=> .val (.CB cs)
 | .func f=>some (.val (.func (.func f) [] []))
def Eu(C:FJ)(σ:BG)(x:Operand):Option Aa:=(DL C σ x).bind D9.Gt
def Br(C:FJ)(σ:BG):List Operand->Option (List Aa)
 |[]=>some []
 |x::xs=>match Eu C σ x,Br C σ xs with
  |some v,some vs=>some (v::vs)
  |_,_=>none
def uK(ops:List Oper)(d:Nat):Bool:=
 ops.any λo=>match o.op with
  | .call c=>(match c.callee with| .builtin .append=>true|_=>false)&&(match(c.args[0]?:Option Operand) with|some (.tmp t)=>t==d|_=>false)
  |_=>false
def HH:D9->Option D9
 | .val v=>some (.val v)
 | .Nv b=>some (.Nv b)
 | .own v=>some (.val v)
 | .EI s o=>some (.EI s o)
 |_=>none
def Qo(x:Operand)(v:Aa):List (Nat×D9):=
 match x with
 | .tmp s=>[(s,.val v)]
 |_=>[]
def Jz(C:FJ)(σ:BG)(x:Operand)(d:Nat)(take:Bool):Option Et:=
 match x,DL C σ x with
 | .tmp s,some (.box _ _ _)=>some (.pure [(d,.EI s 0)])
 | .const _,some sl=>some (.pure [(d,sl)])
 |x,some (.own v)=>if take then some (.pure (Qo x v++[(d,.own v)])) else(HH (.own v)).map λs=> .pure [(d,s)]
 |_,some s=>(HH s).map λs=> .pure [(d,s)]
 |_,none=>none
def Uk(cs:List Aa):List Nat:=(List.range cs.length).filter λi=>match cs.getD i .nilIface with| .slnil=>true|_=>false
def LM(σ:BG)(ds:List Nat):Bool:=σ.all λs=>match s with| .EI s _=> !ds.contains s|_=>true
def BG.drop(σ:BG)(ds:List Nat):BG:=match ds with|[]=>σ|ds=>σ.map λs=>match s with| .EI s o=>if ds.contains s then .undef else .EI s o|s=>s
def Sx(C:FJ)(fid:FuncId)(t:TypeId)(v:Aa)(d:Nat):Option Et:=
 match BQ C.P t with
 |none=>none
 |some n=>if n=0 then none else match C.kind fid d with
  | .NM=>some (.box n v d)
  | .heap=>some (.alloc n v (some d))
inductive xy where
 |NM (s off ver:Nat) (cells:List Aa) (own:List Nat)
 |ptr (p:Aa)
def Fu(C:FJ)(σ:BG)(x:Operand):Option xy:=
 match x,DL C σ x with
 | .tmp s,some (.box ver cs ow)=>some (.NM s 0 ver cs ow)
 |_,some (.EI s o)=>match σ.at s with
  | .box ver cs ow=>some (.NM s o ver cs ow)
  |_=>none
 |_,some s=>s.Gt.map .ptr
 |_,none=>none
def CZ(σ:BG):Operand->Option (Nat×Aa)
 | .tmp s=>match σ.at s with
  | .own v=>some (s,v)
  |_=>none
 |_=>none
def J5(C:FJ)(σ:BG)(x:Operand):Bool:=match DL C σ x with|some (.own _)=>true|_=>false
def Kr(C:FJ)(σ:BG)(t:TypeId)(x:Operand)(d:Nat)(take:Bool):Option Et:=
 match EP C.P t,Fu C σ x with
 |some n,some (.ptr p)=>some (.load n p (some d))
 |some none,some (.NM s o ver cs ow)=>
  if o<cs.length then
   let v:=cs.getD o .nilIface
   if ow.contains o&& !(ow.erase o).contains o&&take then some (.pure [(s,.box (ver+1) cs (ow.erase o)),(d,.own v)])
   else some (.pure [(d,.val v)])
  else none
 |some (some n),some (.NM _ o _ cs _)=>if o+n<=cs.length then some (.pure [(d,.val (.agg ((cs.drop o).take n)))]) else none
 |_,_=>none
def ID(C:FJ)(σ:BG)(t:TypeId)(x y:Operand):Option Et:=
 match BQ C.P t,EP C.P t,Fu C σ x,Eu C σ y with
 |some (n+1),_,some (.ptr p),some v=>some (.store (n+1) p v)
 |some (n+1),some sh,some (.NM s o ver cs ow),some v=>
  if o+(n+1)<=cs.length then
   let own:=sh.isNone&&J5 C σ y
   some (.LL s o (n+1) v own (if own then CZ σ y else none) ver cs ow)
  else none
 |_,_,_,_=>none
def Ry(P:Program)(t:TypeId)(neg:Bool)(u:TypeDesc):Option We:=
 match u with
 | .bool=>some (.beq neg)
 | .struct _=>if P.eqGuardType P.depth t=false then(NN P 20 t).map (.geq neg) else none
 | .pointer e=>if(BQ P e).getD 0=0 then none else some (.Tb neg)
 | .slice _=>some (.Gp neg .sl)
 | .func _ _ _=>some (.Gp neg .fn)
 | .map _ _=>some (.Gp neg .mp)
 |_=>none
def OC(P:Program)(op:BinOp)(t:TypeId):Option We:=
 match P.underlying t with
 |some (.int _)=>some (.int op)
 |some .string=>some (.str op)
 |some u=>match op with
  | .eql=>Ry P t false u
  | .neq=>Ry P t true u
  |_=>none
 |none=>none
def Rz(p:We)(dst:Option Nat):Option (List Aa)->Option Et
 |some args=>some (.op p args dst false none)
 |none=>none
def Jc(P:Program)(t:TypeId):List (Nat×Operand)->Option (List (Nat×Nat))
 |[]=>some []
 |(i,_)::rest=>match P.underlying t with
  |some (.struct fs)=>match fs[i]? with
   |some f=>match BQ P f.type,Jc P t rest with
    |some n,some r=>some ((f.offset,n)::r)
    |_,_=>none
   |none=>none
  |some (.array len e)=>if i<len then match BQ P e,Jc P t rest with
    |some n,some r=>some ((i*n,n)::r)
    |_,_=>none
   else none
  |_=>none
def LN(P:Program)(t:TypeId):Bool:=
 match P.info? t with
 |some i=>match i.zero with
  |some z=>z.cells.size==i.size
  |none=>false
 |none=>false
def TO(P:Program)(t:TypeId):Bool:=
 match P.underlying t with
 |some (.struct fs)=>fs.toList.all λf=>(BQ P f.type).isSome
 |some (.array _ e)=>(BQ P e).isSome
 |_=>false
def Td(o:uF)(dst:Option Nat):Option (List Aa)->Option Et
 |some args=>some (.mem o args dst)
 |none=>none
def PG(C:FJ)(fid:FuncId)(σ:BG)(c:Call)(dst:Option Nat):Option Et:=
 match c.callee with
 | .builtin .len=>match c.argTypes[0]? with
  |some t=>match C.P.underlying t with
   |some .string=>Rz (.len true) dst (Br C σ c.args.toList)
   |some (.slice _)=>Rz (.len false) dst (Br C σ c.args.toList)
   |_=>none
  |none=>none
 | .builtin .append=>match c.argTypes[0]?,c.argTypes[1]?,c.args.toList with
  |some t,some t',[s,x]=>match C.P.underlying t,C.P.underlying t' with
   |some (.slice e),some (.slice _)|some (.slice e),some .string=>match BQ C.P e,Jb C.P e with
    |some (n+1),some (b+1)=>if LN C.P e then match Br C σ [s,x] with
      |some [v,u]=>if J5 C σ s then
        (if(dst.map (C.uH fid)).getD false then some (.Hw (n+1) (b+1) v u dst (CZ σ s))
        else if(dst.map (C.Rx fid)).getD false then some (.FX (n+1) (b+1) v u dst (CZ σ s))
        else some (.op (.append (n+1) (b+1)) [v,u] dst true (CZ σ s)))
       else if(dst.map (C.uH fid)).getD false then some (.Fs (n+1) (b+1) v u dst) else none
      |_=>none
     else none
    |_,_=>none
   |_,_=>none
  |_,_,_=>none
 | .builtin .copy=>match c.argTypes[0]?,c.argTypes[1]?,c.args.toList with
  |some t,some t',[s,x]=>match C.P.underlying t,C.P.underlying t' with
   |some (.slice e),some (.slice _)|some (.slice e),some .string=>match BQ C.P e with
    |some (n+1)=>Td (.copy (n+1)) dst (Br C σ [s,x])
    |_=>none
   |_,_=>none
  |_,_,_=>none
 | .builtin .clear=>match c.argTypes[0]?,c.args.toList with
  |some t,[s]=>match C.P.underlying t with
   |some (.slice e)=>match BQ C.P e,GO C.P e with
    |some (n+1),some z=>Td (.clear (n+1) z.cells) dst (Br C σ [s])
    |_,_=>none
   |_=>none
  |_,_=>none
 | .builtin .max=>if c.args.size=2 then Rz (.Kn true) dst (Br C σ c.args.toList) else none
 | .builtin .min=>if c.args.size=2 then Rz (.Kn false) dst (Br C σ c.args.toList) else none
 | .value (.func f)=>if C.L1 f then(match c.args.toList with
  |[s,i,v]=>if J5 C σ v then Td .p9 dst (Br C σ [s,i,v]) else none
  |_=>none) else if Ea (C.alt fid f)=f then(Br C σ c.args.toList).map λargs=>if C.tk (C.alt fid f) then .Bk (C.alt fid f) args dst else .call (C.alt fid f) args dst else none
 | .value g=>match Eu C σ g,Br C σ c.args.toList with
  |some g,some args=>some (.FH g args dst)
  |_,_=>none
 |_=>none
def Ul(C:FJ)(src dst:TypeId):Option (Option We):=
 match C.P.underlying src,C.P.underlying dst with
 |some (.int _),some (.int k)=>some (some (.conv k))
 |some (.int _),some .string=>some (some .i2s)
 |some .string,some .string=>some none
 |some (.slice e),some .string=>match C.P.underlying e with
  |some (.int .u8)=>some (some .Tc)
  |_=>none
 |some .string,some (.slice e)=>match C.P.underlying e,BQ C.P e,Jb C.P e with
  |some (.int .u8),some 1,some 1=>some (some .s2b)
  |_,_,_=>none
 |_,_=>none
def Gu(C:FJ)(σ:BG):List Operand->Option (List Aa×List (Nat×List Aa))
 |[]=>some ([],[])
 |x::xs=>match Gu C σ xs with
  |none=>none
  |some (vs,fz)=>match x,DL C σ x with
   | .tmp s,some (.box _ cs _)=>if(fz.map (·.1)).contains s then none else some (.CB cs::vs,(s,cs)::fz)
   |_,some sl=>match sl.Gt with
    |some v=>some (v::vs,fz)
    |none=>none
   |_,none=>none
def Fv(C:FJ)(fid:FuncId)(ops:List Oper)(σ:BG)(o:Oper):Option Et:=
 match o.op with
 | .move x=>match o.dst with
  |some d=>Jz C σ x d (uK ops d)
  |none=>none
 | .assign x=>match o.dst with
  |some d=>Jz C σ x d true
  |none=>none
 | .pick c a b=>match DL C σ c,o.dst with
  |some (.Nv true),some d=>Jz C σ a d false
  |some (.Nv false),some d=>Jz C σ b d false
  |_,dst=>Rz .pick dst (Br C σ [c,a,b])
 | .alloc t=>match o.dst,GO C.P t with
  |some d,some z=>match C.kind fid d with
   | .NM=>if BQ C.P t=some z.cells.length/\z.cells≠[] then some (.pure [(d,.box 0 z.cells (Uk z.cells))]) else none
   |_=>Sx C fid t z d
  |_,_=>none
 | .box t x=>match o.dst,Eu C σ x with
  |some d,some v=>Sx C fid t v d
  |_,_=>none
 | .build t parts=>match GO C.P t,Jc C.P t parts.toList with
  |some z,some ps=>if TO C.P t then Rz (.Bs z.cells ps) o.dst (Br C σ (parts.toList.map (·.2))) else none
  |_,_=>none
 | .buildSlice t len parts=>match C.P.underlying t with
  |some (.slice e)=>match BQ C.P e with
   |some (n+1)=>if parts.toList.map (·.1)=List.range len/\LN C.P e=true then(Br C σ (parts.toList.map (·.2))).map λargs=> .op (.By (n+1)) args o.dst true none else none
   |_=>none
  |_=>none
 | .load t x=>match o.dst with
  |some d=>Kr C σ t x d (uK ops d)
  |none=>none
 | .store t x y=>match o.dst with
  |none=>ID C σ t x y
  |some _=>none
 | .nilCheck x=>match x,DL C σ x,o.dst with
  | .tmp s,some (.box _ _ _),some d=>some (.pure [(d,.EI s 0)])
  |_,some (.EI s k),some d=>some (.pure [(d,.EI s k)])
  |x,_,dst=>Rz .KV dst (Br C σ [x])
 | .binOp op t x y _=>match OC C.P op t with
  |some p=>Rz p o.dst (Br C σ [x,y])
  |none=>none
 | .unOp op _ x=>Rz (.un op) o.dst (Br C σ [x])
 | .convert src dst x=>match Ul C src dst with
  |some (some .Tc)=>(Eu C σ x).map λv=> .Tc v o.dst
  |some (some .s2b)=>if(o.dst.map (C.uH fid)).getD false then(Eu C σ x).map λv=> .Fb v o.dst else Rz .s2b o.dst (Br C σ [x])
  |some (some p)=>Rz p o.dst (Br C σ [x])
  |_=>none
 | .makeFunc fn first captured=>match o.dst,Br C σ first.toList,Gu C σ captured.toList with
  |some d,some a,some (b,fz)=>some (.KF fn a b fz d)
  |_,_,_=>none
 | .makeMap _ none=>some (.O4 o.dst)
 | .makeSlice t l c=>match C.P.underlying t with
  |some (.slice e)=>match BQ C.P e,Jb C.P e,GO C.P e,Eu C σ l,Eu C σ c with
   |some (n+1),some (b+1),some z,some l,some c=>some (.make (n+1) (b+1) z.cells l c o.dst)
   |_,_,_,_,_=>none
  |_=>none
 | .insert t m k v| .mapUpdate t m k v=>match C.P.underlying t with
  |some (.map kt _)=>match o.dst,C.P.underlying kt,Br C σ [m,k,v] with
   |none,some .string,some [m,k,v]=>some (.J4 m k v)
   |_,_,_=>none
  |_=>none
 | .lookup t m k ok=>match C.P.underlying t with
  |some (.map kt e)=>match C.P.underlying kt,GO C.P e,Br C σ [m,k] with
   |some .string,some z,some [m,k]=>some (.L5 z ok m k o.dst)
   |some (.int .i64),some z,some [m,k]=>some (.mem (.dx z ok) [m,k] o.dst)
   |_,_,_=>none
  |_=>none
 | .slice t x (some lo) (some hi) (some mx)=>match C.P.underlying t with
  |some (.slice e)=>match BQ C.P e with
   |some (n+1)=>Td (.eB (n+1)) o.dst (Br C σ [x,lo,hi,mx])
   |_=>none
  |_=>none
 | .makeInterface t x=>match C.P.underlying t with
  |some (.interface _)=>none
  |some _=>Td (.aDd t) o.dst (Br C σ [x])
  |none=>none
 | .mapEntry t m k=>match C.P.underlying t with
  |some (.map kt e)=>match C.P.underlying kt,GO C.P e with
   |some (.int .i64),some z=>Td (.MH z) o.dst (Br C σ [m,k])
   |_,_=>none
  |_=>none
 | .entryStore _ m s v=>match o.dst with
  |none=>Td .LK none (Br C σ [m,s,v])
  |some _=>none
 | .slice t x lo hi none=>match C.P.underlying t with
  |some .string=>Rz (.Hv 0 true lo.isSome hi.isSome) o.dst (Br C σ (x::(lo.toList++hi.toList)))
  |some (.slice e)=>match BQ C.P e with
   |some (n+1)=>if(o.dst.map (C.uH fid)).getD false then Td (.p8 (n+1) lo.isSome hi.isSome) o.dst (Br C σ (x::(lo.toList++hi.toList)))
    else Rz (.Hv (n+1) false lo.isSome hi.isSome) o.dst (Br C σ (x::(lo.toList++hi.toList)))
   |_=>none
  |_=>none
 | .fieldAddr t x f=>match HG C.P t f,o.dst with
  |some (off,_),some d=>match x,DL C σ x with
   | .tmp s,some (.box _ _ _)=>some (.pure [(d,.EI s off)])
   |_,some (.EI s k)=>some (.pure [(d,.EI s (k+off))])
   |x,_=>Rz (.Ec off) (some d) (Br C σ [x])
  |_,_=>none
 | .field t x f=>match HG C.P t f with
  |some (off,sh)=>Rz (.part off sh) o.dst (Br C σ [x])
  |none=>none
 | .indexAddr t x i=>match C.P.underlying t with
  |some (.slice e)=>match BQ C.P e with
   |some (n+1)=>Rz (.EE (n+1)) o.dst (Br C σ [x,i])
   |_=>none
  |some (.array len e)=>match BQ C.P e with
   |some (n+1)=>if len<=1 then none else Rz (.Uc len (n+1)) o.dst (Br C σ [x,i])
   |_=>none
  |_=>none
 | .index t x i=>match C.P.underlying t with
  |some .string=>Rz .Rw o.dst (Br C σ [x,i])
  |some (.array len e)=>match BQ C.P e,EP C.P e with
   |some (n+1),some sh=>Rz (.xr len (n+1) sh) o.dst (Br C σ [x,i])
   |_,_=>none
  |_=>none
 | .extract x i=>Rz (.ext i) o.dst (Br C σ [x])
 | .call c=>PG C fid σ c o.dst
 |_=>none
def BG.Eh(σ:BG):List (Nat×D9)->BG
 |[]=>σ
 |(s,x)::ws=>BG.Eh (σ.set s x) ws
def BG.put(σ:BG)(dst:Option Nat)(x:D9):BG:=
 match dst with
 |some d=>σ.set d x
 |none=>σ
def BG.Dn(σ:BG):Option (Nat×Aa)->BG
 |some (s,v)=>σ.set s (.val v)
 |none=>σ
def Um(n:Nat)(cs:List Aa):List Aa:=(List.range n).map λi=>cs.getD i .nilIface
def Un(cs:List Aa)(off n:Nat)(vs:List Aa):List Aa:=cs.take off++vs++cs.drop (off+n)
def Qp(owned:List Nat)(off n:Nat)(own:Bool):List Nat:=
 let rest:=owned.filter λo=> !(off<=o&&o<off+n)
 if own then off::rest else rest
def Et.LO(C:FJ)(σ:BG)(K:BG->IT):Et->IT
 | .pure ws=>K (σ.Eh ws)
 | .op p args dst own dem=> .op p args λv=>K ((σ.Dn dem).put dst (if own then .own v else .val v))
 | .box n v d=> .cells n v λcs=>K (σ.set d (.box 0 (Um n cs) []))
 | .KF fn a b fz d=>K ((σ.Eh (fz.map λ(s,cs)=>(s,.val (.CB cs)))).set d (.val (.func fn a b)))
 | .LL s off n v own dem ver cells owned=> .cells n v λvs=>K ((σ.Dn dem).set s (.box (ver+1) (Un cells off n (Um n vs)) (Qp owned off n own)))
 | .load n p dst=> .load n p λv=>K (σ.put dst (.val v))
 | .store n p v=> .store n p v (K σ)
 | .alloc n v dst=> .alloc n v λp=>K (σ.put dst (.val p))
 | .call f args dst=> .call f args λr=>K (σ.put dst (if C.Io f then .own r else .val r))
 | .FH g args dst=> .FH g args λr=>K (σ.put dst (.val r))
 | .Bk f args dst=> .Bk f args λr=>K (σ.put dst (.val r))
 | .O4 dst=> .O4 λm=>K (σ.put dst (.val m))
 | .J4 m k v=> .J4 m k v (K σ)
 | .L5 z ok m k dst=> .L5 z ok m k λv=>K (σ.put dst (.val v))
 | .make z b zero l c dst=> .make z b zero l c λv=>K (σ.put dst (.val v))
 | .Hw z b s x dst dem=> .Hw z b s x λv=>K ((σ.Dn dem).put dst (.val v))
 | .Fs z b s x dst=> .Fs z b s x λv=>K (σ.put dst (.val v))
 | .FX z b s x dst dem=> .FX z b s x λv=>K ((σ.Dn dem).put dst (.own v))
 | .Fb s dst=> .Fb s λv=>K (σ.put dst (.val v))
 | .Tc v dst=> .KW v λv=> .op .Tc [v] λu=>K (σ.put dst (.val u))
 | .mem o args dst=> .mem o args λv=>K (σ.put dst (if o.aDe then .undef else .val v))
def Et.news:Et->List Nat
 | .pure ws=>ws.filterMap λ(s,x)=>match x with| .box 0 _ _=>some s|_=>none
 | .box _ _ d=>[d]
 | .KF _ _ _ fz _=>fz.map (·.1)
 |_=>[]
inductive aDg where
 |L6 (run:Bool)
 |ask (eD:Nat) (v:Aa) (want:Bool)
 |xz
def HX(ops:List Oper)(σ:BG)(o:Oper):aDg:=
 match o.guard with
 |none=> .L6 true
 |some (j,want)=>match(ops[j]?).bind (·.dst) with
  |some s=>match σ.at s with
   | .Nv b=> .L6 (b==want)
   | .val v=> .ask s v want
   | .skip=> .L6 false
   |_=> .xz
  |none=> .xz
def uL(C:FJ)(fid:FuncId)(ops:List Oper)(σ:BG)(o:Oper)(K:BG->IT):IT:=
 match Fv C fid ops σ o with
 |some r=>r.LO C (σ.drop r.news) K
 |none=> .fail
def RC(C:FJ)(fid:FuncId)(ops:List Oper)(σ:BG)(o:Oper)(K:BG->IT):IT:=
 match HX ops σ o with
 | .L6 true=>uL C fid ops σ o K
 | .L6 false=>K (σ.put o.dst .skip)
 | .ask s v want=>
  let t:=if want then uL C fid ops (σ.set s (.Nv true)) o K else K (BG.put (σ.set s (.Nv true)) o.dst .skip)
  let e:=if want then K (BG.put (σ.set s (.Nv false)) o.dst .skip) else uL C fid ops (σ.set s (.Nv false)) o K
  .AJ v t e
 | .xz=> .fail
def kJ(C:FJ)(fid:FuncId)(ops:List Oper):List Oper->BG->(BG->IT)->IT
 |[],σ,K=>K σ
 |o::rest,σ,K=>RC C fid ops σ o λσ=>kJ C fid ops rest σ K
end Go.Am
end
section
namespace Go.Am
def Oper.Te(o:Oper):List Nat:=o.after.toList.filterMap λe=>if Region.binds .any e then some e.on else none
def bit(i:Nat):Nat:=2^i
def J6(Dw:List Nat):List Oper->List Nat
 |[]=>Dw
 |o::rest=>J6 (Dw++[(Oper.Te o).foldl (λm e=>m|||bit e|||Dw.getD e 0) 0]) rest
def Uo(ops:List Oper):List Nat:=J6 [] ops
def DZ(an:List Nat)(i j:Nat):Bool:=(an.getD j 0).testBit i
def tl(o:Oper):Bool:=
 match o.op with
 | .call c=>(match c.callee with| .builtin .copy| .builtin .clear=>true| .builtin _=>false|_=>true)
 | .store _ _ _| .insert _ _ _ _| .mapUpdate _ _ _ _| .makeMap _ _| .makeSlice _ _ _| .mapEntry _ _ _| .entryStore _ _ _ _=>true
 |_=>false
def Uq(all:List Oper)(Dw:List Nat):List Oper->List Nat
 |[]=>Dw
 |o::rest=>Uq all (Dw++[(Oper.Te o).foldl (λm e=>Nat.max m (Dw.getD e 0+(match all[e]? with|some x=>if tl x then 1 else 0|none=>0))) 0]) rest
def dy(ops:List Oper):List Nat:=
 let st:=Uq ops [] ops
 let idx:=List.range ops.length
 let Qj:=λi=>match ops[i]? with|some o=>tl o|none=>false
 (List.range (ops.length+1)).flatMap λs=>(idx.filter λi=>st.getD i 0==s&& !Qj i)++(idx.filter λi=>st.getD i 0==s&&Qj i)
structure FP where
 rs:List Nat
 wf:List Nat
 hl:Bool
 Qj:Bool
 news:List Nat
 lr:List Nat
 RD:Bool
 deriving Inhabited
def JA(xs:List Operand):List Nat:=xs.filterMap λ| .tmp t=>some t|_=>none
def MI(C:FJ)(σ:BG)(x:Operand):Option Nat:=
 match Fu C σ x with
 |some (.NM s _ _ _ _)=>some s
 |_=>none
def He(C:FJ)(σ:BG)(o:Oper):List Nat:=
 match o.op with
 | .load _ x=>(MI C σ x).toList
 | .store _ x _=>(MI C σ x).toList
 | .makeFunc _ _ captured=>JA captured.toList
 |_=>[]
def Et.wf:Et->List Nat
 | .pure ws=>ws.map (·.1)
 | .op _ _ dst _ dem=>dst.toList++(dem.map (·.1)).toList
 | .box _ _ d=>[d]
 | .KF _ _ _ fz d=>d::fz.map (·.1)
 | .LL s _ _ _ _ dem _ _ _=>s::(dem.map (·.1)).toList
 | .load _ _ dst| .alloc _ _ dst| .call _ _ dst| .FH _ _ dst| .Bk _ _ dst| .O4 dst| .L5 _ _ _ _ dst| .make _ _ _ _ _ dst| .Fb _ dst| .Tc _ dst| .Fs _ _ _ _ dst| .mem _ _ dst=>dst.toList
 | .Hw _ _ _ _ dst dem| .FX _ _ _ _ dst dem=>dst.toList++(dem.map (·.1)).toList
 | .store _ _ _| .J4 _ _ _=>[]
def Et.hl:Et->Bool
 | .load _ _ _| .L5 _ _ _ _ _=>true
 |_=>false
def Et.Qj:Et->Bool
 | .store _ _ _| .alloc _ _ _| .call _ _ _| .FH _ _ _| .O4 _| .J4 _ _ _| .make _ _ _ _ _ _| .Hw _ _ _ _ _ _| .Fb _ _| .Tc _ _| .Fs _ _ _ _ _| .FX _ _ _ _ _ _| .mem _ _ _=>true
 |_=>false
def E1(ops:List Oper)(o:Oper):List Nat:=
 match o.guard with
 |none=>[]
 |some (j,_)=>((ops[j]?).bind (·.dst)).toList
def TP(xs:List D9):List Nat:=xs.filterMap λ| .EI t _=>some t|_=>none
def Et.kK:Et->List Nat
 | .pure ws=>TP (ws.map (·.2))
 |_=>[]
def Et.RD(σ:BG)(r:Et):Bool:=
 LM σ r.news&&match r with
  | .load _ _ (some d)=>decide (d<σ.length)
  | .load _ _ none| .L5 _ _ _ _ _| .KF _ _ _ (_::_) _=>false
  |_=>true
def Tf(C:FJ)(ops:List Oper)(σ:BG)(o:Oper)(r:Option Et):FP:=
 match r with
 |none=>{rs:=E1 ops o,wf:=o.dst.toList,hl:=false,Qj:=false,news:=[],lr:=TP (o.dst.toList.map σ.at),RD:=true}
 |some r=>{rs:=E1 ops o++JA o.op.operands.toList++He C σ o,wf:=r.wf++o.dst.toList,hl:=r.hl,Qj:=r.Qj,news:=r.news,lr:=TP ((r.wf++o.dst.toList).map σ.at)++r.kK,RD:=r.RD σ}
def Sy(a b:List Nat):Bool:=a.any λx=>b.contains x
def FP.apart(x y:FP):Bool:= !Sy x.wf (y.rs++y.wf)&& !Sy y.wf x.rs&& !Sy x.lr y.news&& !Sy y.lr x.news
def PH(x y:FP):Bool:=x.RD&&y.RD&&x.apart y&& !(x.Qj&&y.Qj)&& !(x.Qj&&y.hl)
def Ur(n:Nat)(an:List Nat)(ann:List (Nat×FP)):Bool:=
 go ann&&(List.range n).all (λi=>(ann.map (·.1)).contains i)
where
 go:List (Nat×FP)->Bool
  |[]=>true
  |(i,f)::rest=>rest.all (λ(j,g)=>i != j&& !DZ an j i&&(DZ an i j||PH f g))&&go rest
structure Jt where
 idx:Nat
 n:Option Nat
 p:Aa
 v:Aa
def Qq(an:List Nat)(i:Nat):List Jt->IT->IT
 |[],t=>t
 |f::fs,t=>if DZ an f.idx i then Qq an i fs t else .load f.n f.p λv=> .same f.v v (Qq an i fs t)
def Lv(i:Nat)(r:Et)(σ:BG)(fl:List Jt):List Jt:=
 match r with
 | .load n p (some d)=>match σ.at d with
  | .val v=>{idx:=i,n,p,v}::fl
  |_=>fl
 |_=>fl
def Qr(ops:List Oper)(i:Nat):Bool:=ops.any λo=>match o.guard with|some (j,_)=>j==i|none=>false
def kL(d:Option Nat)(σ:BG)(K:BG->IT):IT:=
 match d with
 |none=>K σ
 |some d=>match σ.at d with
  | .val v=> .AJ v (K (σ.set d (.Nv true))) (K (σ.set d (.Nv false)))
  |_=>K σ
def PI(C:FJ)(fid:FuncId)(ops:List Oper)(an:List Nat):List Nat->List (Nat×FP)->List Jt->BG->(BG->IT)->IT
 |[],ann,_,σ,K=>if Ur ops.length an ann.reverse then K σ else .fail
 |i::rest,ann,fl,σ,K=>
  match ops[i]? with
  |none=> .fail
  |some o=>match HX ops σ o with
   | .L6 true=>match Fv C fid ops σ o with
    |none=> .fail
    |some r=>r.LO C (σ.drop r.news) λσ'=>
     let next:=kL (if Qr ops i then o.dst else none) σ' λσ''=>PI C fid ops an rest ((i,Tf C ops σ o (some r))::ann) (Lv i r σ' fl) σ'' K
     if r.Qj then Qq an i fl next else next
   | .L6 false=>PI C fid ops an rest ((i,Tf C ops σ o none)::ann) fl (σ.put o.dst .skip) K
   |_=> .fail
def ES(ops:List Oper)(o:Oper):List Nat:=
 o.dst.toList++match o.op with
  | .move (.tmp s)=>(match o.dst with|some d=>if uK ops d then[s] else[]|none=>[])
  | .assign (.tmp s)=>[s]
  | .store _ _ (.tmp s)=>[s]
  | .call c=>(match c.callee with| .builtin .append=>JA c.args.toList|_=>[])
  | .makeFunc _ _ captured=>JA captured.toList
  |_=>[]
def CQ:Code->List Nat
 | .region _ ops _=>ops.toList.flatMap (ES ops.toList)
 | .seq a b=>CQ a++CQ b
 | .cond _ a b=>CQ a++CQ b
 | .block _ b=>CQ b
 | .loop b=>CQ b
 | .scope b=>CQ b
 |_=>[]
def B2:Code->List Nat
 | .region _ ops _=>ops.toList.flatMap (E1 ops.toList)
 | .seq a b=>B2 a++B2 b
 | .cond (.tmp s) a b=>s::(B2 a++B2 b)
 | .cond _ a b=>B2 a++B2 b
 | .block _ b=>B2 b
 | .loop b=>B2 b
 | .scope b=>B2 b
 |_=>[]
def BG.clear(σ:BG):List Nat->BG
 |[]=>σ
 |s::ss=>BG.clear (σ.set s .undef) ss
def FY:Code->Option Nat
 | .region id _ _=>some id
 | .seq a b=>(FY a).orElse λ_=>FY b
 | .cond _ a b=>(FY a).orElse λ_=>FY b
 | .block _ b| .loop b| .scope b=>FY b
 |_=>none
def Us(σ:BG):List (Nat×Sh)->Option (List Aa)
 |[]=>some []
 |(s,sh)::l=>
  let v:=match sh,σ.at s with
   | .val,x=>x.Gt
   | .own,.own v=>some v
   | .box n ow,.box _ cs MC=>if cs.length=n/\ow.all (MC.contains ·) then some (.agg cs) else none
   |_,_=>none
  match v,Us σ l with
  |some v,some vs=>some (v::vs)
  |_,_=>none
def WX:D9->Nat
 | .box ver _ _=>ver
 |_=>0
def IH(vs:List Aa):List (Nat×Sh)->Nat->BG->(BG->IT)->IT
 |[],_,σ,K=>K σ
 |(s,.val)::l,i,σ,K=>IH vs l (i+1) (σ.set s (.val (vs.getD i .nilIface))) K
 |(s,.own)::l,i,σ,K=>IH vs l (i+1) (σ.set s (.own (vs.getD i .nilIface))) K
 |(s,.box n ow)::l,i,σ,K=> .cells n (vs.getD i .nilIface) λcs=>IH vs l (i+1) (σ.set s (.box (WX (σ.at s)+1) (Um n cs) ow)) K
def eE(σ:BG)(σ':BG)(l:List (Nat×Sh)):Bool:=
 (List.range σ.length).all λs=>match σ.at s with
  | .box ver _ _=>(l.map (·.1)).contains s||(match σ'.at s with| .box Fw _ _=>Fw==ver|_=>false)
  | .EI _ _=>(l.map (·.1)).contains s||(match σ'.at s with| .EI _ _=>true|_=>false)
  |_=>true
def RE(σ0:BG)(l:List (Nat×Sh))(x:EN)(σ':BG):IT:=
 if eE σ0 σ' l then match Us σ' l with
  |some vs=> .ret x vs
  |none=> .fail
 else .fail
def uM(l:List (Nat×Sh))(ws:List Nat)(σ:BG):Bool:=l.all λ(s,_)=>ws.contains s||(match σ.at s with| .box _ _ _=>true|_=>false)
def X3(ops:List Oper):Bool:=ops.zipIdx.all λ(o,i)=>(Oper.Te o).all λe=>decide (e<i)
def Qs(C:FJ)(fid:FuncId)(ops:List Oper)(draw:Bool)(σ:BG)(K:BG->IT):IT:=
 if draw then(if X3 ops then PI C fid ops (Uo ops) (dy ops) [] [] σ K else .fail) else kJ C fid ops ops σ K
def X4(key:Nat)(σ:BG)(ws:List Nat)(l:List (Nat×Sh))(t:(EN->BG->IT)->IT)(K:EN->BG->IT):IT:=
 let σ0:=σ.clear ws
 if uM l ws σ then .Di key (t λx σ'=>RE σ0 l x σ') λx vs=>IH vs l 0 σ0 λσ'=>K x σ' else .fail
def tn(K:EN->BG->IT):EN->BG->IT
 | .normal,_=> .fail
 | .exit i,σ=>K (.exit i) σ
 | .ret,σ=>K .ret σ
def Fx(C:FJ)(fid:FuncId):Code->BG->(EN->BG->IT)->IT
 | .skip,σ,K=>K .normal σ
 | .region id ops draw,σ,K=>match C.tj fid id with
  |none=>Qs C fid ops.toList draw σ (K .normal)
  |some l=>X4 (200000+id) σ (ops.toList.flatMap (ES ops.toList)++ops.toList.flatMap (E1 ops.toList)) l (λK=>Qs C fid ops.toList draw σ (K .normal)) K
 | .seq a b,σ,K=>Fx C fid a σ λx σ'=>match x with
  | .normal=>Fx C fid b σ' K
  | .exit i=>K (.exit i) σ'
  | .ret=>K .ret σ'
 | .cond c a b,σ,K=>match c,DL C σ c with
  |_,some (.Nv true)=>Fx C fid a σ K
  |_,some (.Nv false)=>Fx C fid b σ K
  | .tmp s,some (.val v)=>match C.th fid s with
   |none=> .AJ v (Fx C fid a (σ.set s (.Nv true)) K) (Fx C fid b (σ.set s (.Nv false)) K)
   |some l=>X4 (100000+s) σ (s::(CQ a++CQ b++B2 a++B2 b)) l (λK=> .AJ v (Fx C fid a (σ.set s (.Nv true)) K) (Fx C fid b (σ.set s (.Nv false)) K)) K
  |_,_=> .fail
 | .block id b,σ,K=>Fx C fid b σ λx σ'=>match x with
  | .normal=>K .normal σ'
  | .exit i=>if i=id then K .normal σ' else K (.exit i) σ'
  | .ret=>K .ret σ'
 | .loop b,σ,K=>
  let l:=C.xu fid ((FY b).getD 0)
  let ws:=CQ b++B2 b
  let σ0:=σ.clear ws
  if uM l ws σ then match Us σ l with
   |none=> .fail
   |some init=> .loop ((FY b).getD 0) init (λvs=>IH vs l 0 σ0 λσh=>Fx C fid b σh λx σ'=>RE σ0 l x σ') λx vs=>IH vs l 0 σ0 λσ'=>tn K x σ'
  else .fail
 | .exit id,σ,K=>K (.exit id) σ
 | .ret,σ,K=>K .ret σ
 | .scope b,σ,K=>Fx C fid b σ K
 | .label _,σ,K=>K .normal σ
 |_,_,_=> .fail
def FT(C:FJ)(σ:BG):List ResultVar->List Aa->(List Aa->IT)->IT
 |[],Dw,K=>K Dw.reverse
 | .tmp t::rs,Dw,K=>match(σ.at t).Gt with
  |some v=>FT C σ rs (v::Dw) K
  |none=> .fail
 | .cell a t::rs,Dw,K=>match EP C.P t,Fu C σ (.tmp a) with
  |some none,some (.NM _ o _ cs _)=>if o<cs.length then FT C σ rs (cs.getD o .nilIface::Dw) K else .fail
  |some (some n),some (.NM _ o _ cs _)=>if o+n<=cs.length then FT C σ rs (.agg ((cs.drop o).take n)::Dw) K else .fail
  |some n,some (.ptr p)=> .load n p λv=>FT C σ rs (v::Dw) K
  |_,_=> .fail
def OD(σ:BG):List ResultVar->Bool
 |[.tmp t]=>match σ.at t with| .own _=>true|_=>false
 |_=>false
def kM(C:FJ)(σ:BG):List (Nat×Nat)->IT->IT
 |[],t=>t
 |(s,off)::l,t=>match(σ.at s).Gt with
  |some p=> .Hy off p (kM C σ l t)
  |none=> .fail
def NO:List Aa->List Aa->(List Aa->IT)->IT
 |[],Dw,K=>K Dw.reverse
 |v::vs,Dw,K=> .KW v λv=>NO vs (v::Dw) K
def SA:List Aa->IT
 |[v]=> .ret .ret [v]
 |vs=> .ret .ret [.tuple vs]
def ZP(C:FJ)(fid:FuncId)(fn:Func)(σ:BG):IT:=
 if C.Io fid&& !OD σ fn.results.toList then .fail
 else kM C σ (C.uJ fid) (FT C σ fn.results.toList [] λvs=>if C.uI fid then NO vs [] SA else SA vs)
def uN(C:FJ)(fid:FuncId)(fn:Func)(args:List Aa):IT:=
 match fn.body with
 |none=> .fail
 |some c=>Fx C fid c (args.map .val++List.replicate (fn.ntmps-args.length) .undef) λx σ=>match x with
  | .normal=>ZP C fid fn σ
  | .exit _=> .fail
  | .ret=>ZP C fid fn σ
def aDh(C:FJ)(fid:FuncId)(args:List Aa):IT:=
 match C.P.funcs[Ea fid]? with
 |some fn=>if fn.name== "runtime.NumGoroutine" then .fail else uN C fid fn args
 |none=> .fail
def B5(C:FJ)(fid:FuncId)(args:List Aa):IT:=
 match C.xw fid with
 |some p=>p args
 |none=>aDh C fid args
abbrev g(l:List Aa)(i:Nat):Aa:=l.getD i .nilIface
abbrev I(n:Int):Aa:= .int .i64 n
abbrev S(s:As):Aa:= .str s
abbrev tt:Aa:= .bool true
abbrev ff:Aa:= .bool false
abbrev FJ.run(C:FJ):Nat->IT->Ag->Option Js:=IT.run (B5 C)
end Go.Am
end
end
section
namespace Go.Am
theorem IT.JB{fn:FuncId->List Aa->IT}{rec aDi:IT->Ag->Option Js}(hr:∀t h r,rec t h=some r->aDi t h=some r):
  ∀(t:IT) (h:Ag) (r:Js),IT.step fn rec t h=some r->IT.step fn aDi t h=some r:=by
 intro t;induction t with
 |ret x vs=>intro h r hh;simpa[IT.step] using hh
 |fail=>intro h r hh;simp[IT.step] at hh
 |op o args k ih=>
  intro h r hh;simp only[IT.step] at hh⊢;split at hh;·exact ih _ _ _ hh
  .cases hh
 |cells n v k ih=>
  intro h r hh;simp only[IT.step] at hh⊢;split at hh;·rename_i hc;rw[if_pos hc];exact ih _ _ _ hh
  .cases hh
 |AJ c t e iht ihe=>
  intro h r hh;simp only[IT.step] at hh⊢;split at hh;·exact iht _ _ hh
  .exact ihe _ _ hh
  .cases hh
 |load n p k ih=>
  intro h r hh;simp only[IT.step] at hh⊢;split at hh;·exact ih _ _ _ hh
  .cases hh
 |store n p v k ih=>
  intro h r hh;simp only[IT.step] at hh⊢;split at hh;·exact ih _ _ hh
  .cases hh
 |alloc n v k ih=>
  intro h r hh;simp only[IT.step] at hh⊢;split at hh;·exact ih _ _ _ hh
  .cases hh
 |call f args k ih=>
  intro h r hh;simp only[IT.step] at hh⊢;split at hh;·rename_i h1;rw[hr _ _ _ h1];exact ih _ _ _ hh
  .cases hh
 |FH g args k ih=>
  intro h r hh;simp only[IT.step] at hh⊢;split at hh
  .rename_i f a ht;split at hh;·rename_i h1;simp only[hr _ _ _ h1];exact ih _ _ _ hh
   .cases hh
  .cases hh
 |Bk f args k ih=>
  intro h r hh;simp only[IT.step] at hh⊢;split at hh
  .rename_i Gv;rw[if_pos Gv];split at hh
   .rename_i h1;rw[hr _ _ _ h1];split at hh;·rename_i tq;simp only[tq,BO];exact ih _ _ _ hh
    .cases hh
   .cases hh
  .cases hh
 |loop key init body k ihb ihk=>
  intro h r hh;simp only[IT.step] at hh⊢;split at hh;·rename_i h1;rw[ihb _ _ _ h1];exact hr _ _ _ hh
  .rename_i x vs h1 hne hx;rw[ihb _ _ _ hx];cases x<;>first|exact ihk _ _ _ _ hh|exact absurd rfl hne
  .cases hh
 |Di key t k iht ihk=>
  intro h r hh;simp only[IT.step] at hh⊢;split at hh;·rename_i h1;rw[iht _ _ h1];exact ihk _ _ _ _ hh
  .cases hh
 |same a b k ih=>
  intro h r hh;simp only[IT.step] at hh⊢;split at hh;·rename_i hc;rw[if_pos hc];exact ih _ _ hh
  .cases hh
 |O4 k ih=>intro h r hh;simp only[IT.step] at hh⊢;exact ih _ _ _ hh
 |J4 m key v k ih=>
  intro h r hh;simp only[IT.step] at hh⊢;split at hh;·exact ih _ _ hh
  .cases hh
 |L5 z ok m key k ih=>
  intro h r hh;simp only[IT.step] at hh⊢;split at hh;·exact ih _ _ _ hh
  .cases hh
 |make size bytes zero len cap k ih=>
  intro h r hh;simp only[IT.step] at hh⊢;split at hh;·exact ih _ _ _ hh
  .cases hh
 |Hw size bytes s x k ih=>
  intro h r hh;simp only[IT.step] at hh⊢;split at hh;·exact ih _ _ _ hh
  .cases hh
 |Fb s k ih=>
  intro h r hh;simp only[IT.step] at hh⊢;split at hh;·exact ih _ _ _ hh
  .cases hh
 |KW v k ih=>
  intro h r hh;simp only[IT.step] at hh⊢;split at hh;·exact ih _ _ _ hh
  .cases hh
 |Hy off p k ih=>
  intro h r hh;simp only[IT.step] at hh⊢;split at hh;·exact ih _ _ hh
  .cases hh
 |Fs size bytes s x k ih=>
  intro h r hh;simp only[IT.step] at hh⊢;split at hh;·exact ih _ _ _ hh
  .cases hh
 |FX size bytes s x k ih=>
  intro h r hh;simp only[IT.step] at hh⊢;split at hh;·exact ih _ _ _ hh
  .cases hh
 |mem o args k ih=>
  intro h r hh;simp only[IT.step] at hh⊢;split at hh;·exact ih _ _ _ hh
  .cases hh
 |uG f args k ih=>
  intro h r hh;simp only[IT.step] at hh⊢;split at hh
  .rename_i h1;rw[hr _ _ _ h1];split at hh;·rename_i tq;simp only[tq,BO];exact ih _ _ _ hh
   .cases hh
  .cases hh
theorem IT.uO{fn:FuncId->List Aa->IT}:∀(n:Nat) (t:IT) (h:Ag) (r:Js),IT.run fn n t h=some r->IT.run fn (n+1) t h=some r:=by
 intro n;induction n with
 |zero=>intro t h r hh;simp[IT.run] at hh
 |succ n ih=>intro t h r hh;exact IT.JB (λt h r=>ih t h r) t h r hh
theorem IT.Ip{fn:FuncId->List Aa->IT}{n m:Nat}(hnm:n<=m){t:IT}{h:Ag}{r:Js}(hh:IT.run fn n t h=some r):IT.run fn m t h=some r:=by
 induction hnm with
 |refl=>exact hh
 |step _ ih=>exact IT.uO _ _ _ _ ih
abbrev Post:=EN->List Aa->Ag->Prop
def W(C:FJ)(t:IT)(Q:Post)(h:Ag):Prop:=∃n x vs h',C.run n t h=some (x,vs,h')/\Q x vs h'
section
variable{C:FJ}{Q:Post}{h:Ag}
theorem W.mono{t:IT}{Q':Post}(hw:W C t Q h)(hq:∀x vs h',Q x vs h'->Q' x vs h'):W C t Q' h:=
 let⟨n,x,vs,h',hr,q⟩:=hw;⟨n,x,vs,h',hr,hq _ _ _ q⟩
theorem aDj{x:EN}{vs:List Aa}(hq:Q x vs h):W C (.ret x vs) Q h:=⟨1,x,vs,h,rfl,hq⟩
theorem CM{t:IT}(hh:∃n x vs h',IT.step (B5 C) (C.run n) t h=some (x,vs,h')/\Q x vs h'):W C t Q h:=
 let⟨n,x,vs,h',hr,q⟩:=hh;⟨n+1,x,vs,h',hr,q⟩
theorem W.succ{t:IT}(hh:W C t Q h):∃n x vs h',IT.step (B5 C) (C.run n) t h=some (x,vs,h')/\Q x vs h':=by
 obtain⟨n,x,vs,h',hr,q⟩:=hh;cases n with
 |zero=>simp[FJ.run,IT.run] at hr
 |succ n=>exact⟨n,x,vs,h',hr,q⟩
theorem aIZ{o:We}{args:List Aa}{k:Aa->IT}{v:Aa}(hv:Aw o args=some v)(hw:W C (k v) Q h):W C (.op o args k) Q h:=by obtain⟨n,x,vs,h',hr,q⟩:=hw.succ;exact CM ⟨n,x,vs,h',by simp only[IT.step,hv];exact hr,q⟩
theorem dz{n:Nat}{v:Aa}{k:List Aa->IT}(hv:v.cells.length=n)(hw:W C (k v.cells) Q h):W C (.cells n v k) Q h:=by obtain⟨m,x,vs,h',hr,q⟩:=hw.succ;exact CM ⟨m,x,vs,h',by simp only[IT.step,hv,BO];exact hr,q⟩
theorem tr{b:Bool}{t e:IT}(ht:b=true->W C t Q h)(he:b=false->W C e Q h):W C (.AJ (.bool b) t e) Q h:=by
 cases b with
 |true=>obtain⟨m,x,vs,h',hr,q⟩:=(ht rfl).succ;exact CM ⟨m,x,vs,h',by simp only[IT.step];exact hr,q⟩
 |false=>obtain⟨m,x,vs,h',hr,q⟩:=(he rfl).succ;exact CM ⟨m,x,vs,h',by simp only[IT.step];exact hr,q⟩
theorem x_{n:Option Nat}{p v:Aa}{k:Aa->IT}(hv:A9 h n p=some v)(hw:W C (k v) Q h):W C (.load n p k) Q h:=by obtain⟨m,x,vs,h',hr,q⟩:=hw.succ;exact CM ⟨m,x,vs,h',by simp only[IT.step,hv];exact hr,q⟩
theorem d_{n:Nat}{p v:Aa}{k:IT}{h1:Ag}(hv:Cd h n p v=some h1)(hw:W C k Q h1):W C (.store n p v k) Q h:=by obtain⟨m,x,vs,h',hr,q⟩:=hw.succ;exact CM ⟨m,x,vs,h',by simp only[IT.step,hv];exact hr,q⟩
theorem ee{n:Nat}{v:Aa}{k:Aa->IT}(hv:v.cells.length=n)(hw:W C (k (.ptr (some (h.length,0)))) Q (h++[.cells v.cells])):W C (.alloc n v k) Q h:=by obtain⟨m,x,vs,h',hr,q⟩:=hw.succ;exact CM ⟨m,x,vs,h',by simp only[IT.step,X2,hv,BO];exact hr,q⟩
theorem ya{a b:Aa}{k:IT}(hv:Aa.beq a b=true)(hw:W C k Q h):W C (.same a b k) Q h:=by obtain⟨m,x,vs,h',hr,q⟩:=hw.succ;exact CM ⟨m,x,vs,h',by simp only[IT.step,hv,BO];exact hr,q⟩
theorem yb{k:Aa->IT}(hw:W C (k (.map (some h.length))) Q (h++[.map []])):W C (.O4 k) Q h:=by obtain⟨m,x,vs,h',hr,q⟩:=hw.succ;exact CM ⟨m,x,vs,h',by simp only[IT.step];exact hr,q⟩
theorem yc{m key v:Aa}{k:IT}{h1:Ag}(hv:Sv h m key v=some h1)(hw:W C k Q h1):W C (.J4 m key v k) Q h:=by obtain⟨n,x,vs,h',hr,q⟩:=hw.succ;exact CM ⟨n,x,vs,h',by simp only[IT.step,hv];exact hr,q⟩
theorem yd{z:Aa}{ok:Bool}{m key v:Aa}{k:Aa->IT}(hv:Sw h z ok m key=some v)(hw:W C (k v) Q h):W C (.L5 z ok m key k) Q h:=by obtain⟨n,x,vs,h',hr,q⟩:=hw.succ;exact CM ⟨n,x,vs,h',by simp only[IT.step,hv];exact hr,q⟩
theorem uP{size bytes:Nat}{zero:List Aa}{len cap v:Aa}{k:Aa->IT}{h1:Ag}(hv:Ug h size bytes zero len cap=some (h1,v))(hw:W C (k v) Q h1):W C (.make size bytes zero len cap k) Q h:=by obtain⟨n,x,vs,h',hr,q⟩:=hw.succ;exact CM ⟨n,x,vs,h',by simp only[IT.step,hv];exact hr,q⟩
theorem eo{size bytes:Nat}{s x v:Aa}{k:Aa->IT}{h1:Ag}(hv:IG h size bytes s x=some (h1,v))(hw:W C (k v) Q h1):W C (.Hw size bytes s x k) Q h:=by obtain⟨n,x,vs,h',hr,q⟩:=hw.succ;exact CM ⟨n,x,vs,h',by simp only[IT.step,hv];exact hr,q⟩
theorem eF{s v:Aa}{k:Aa->IT}{h1:Ag}(hv:IQ h s=some (h1,v))(hw:W C (k v) Q h1):W C (.Fb s k) Q h:=by obtain⟨n,x,vs,h',hr,q⟩:=hw.succ;exact CM ⟨n,x,vs,h',by simp only[IT.step,hv];exact hr,q⟩
theorem aDk{u v:Aa}{k:Aa->IT}{h1:Ag}(hv:Kp h u=some (h1,v))(hw:W C (k v) Q h1):W C (.KW u k) Q h:=by obtain⟨n,x,vs,h',hr,q⟩:=hw.succ;exact CM ⟨n,x,vs,h',by simp only[IT.step,hv];exact hr,q⟩
theorem et{off:Nat}{p:Aa}{k:IT}{h1:Ag}(hv:KX h off p=some h1)(hw:W C k Q h1):W C (.Hy off p k) Q h:=by obtain⟨n,x,vs,h',hr,q⟩:=hw.succ;exact CM ⟨n,x,vs,h',by simp only[IT.step,hv];exact hr,q⟩
theorem ye{size bytes:Nat}{s x v:Aa}{k:Aa->IT}{h1:Ag}(hv:Fl h size bytes s x=some (h1,v))(hw:W C (k v) Q h1):W C (.Fs size bytes s x k) Q h:=by obtain⟨n,x,vs,h',hr,q⟩:=hw.succ;exact CM ⟨n,x,vs,h',by simp only[IT.step,hv];exact hr,q⟩
theorem qA{size bytes:Nat}{s x v:Aa}{k:Aa->IT}(hv:Pc h size bytes s x=some v)(hw:W C (k v) Q h):W C (.FX size bytes s x k) Q h:=by obtain⟨n,x,vs,h',hr,q⟩:=hw.succ;exact CM ⟨n,x,vs,h',by simp only[IT.step,hv];exact hr,q⟩
theorem aDl{o:uF}{args:List Aa}{v:Aa}{k:Aa->IT}{h1:Ag}(hv:Ed o h args=some (h1,v))(hw:W C (k v) Q h1):W C (.mem o args k) Q h:=by obtain⟨n,x,vs,h',hr,q⟩:=hw.succ;exact CM ⟨n,x,vs,h',by simp only[IT.step,hv];exact hr,q⟩
def Ev(C:FJ)(f:FuncId)(args:List Aa)(h:Ag)(R:Aa->Ag->Prop):Prop:=
 W C (B5 C f args) (λx vs h'=>x= .ret/\∃r,vs=[r]/\R r h') h
theorem Ev.mono{f:FuncId}{args:List Aa}{R R':Aa->Ag->Prop}(hw:Ev C f args h R)(hr:∀r h',R r h'->R' r h'):Ev C f args h R':=
 W.mono hw λ_ _ _ ⟨hx,r,hv,hR⟩=>⟨hx,r,hv,hr _ _ hR⟩
theorem uQ{f:FuncId}{args:List Aa}{k:Aa->IT}(hc:Ev C f args h λr h1=>W C (k r) Q h1):W C (.call f args k) Q h:=by obtain⟨n,x,vs,h1,hr,hx,r,hv,m,x',Hl,h',Fy,q⟩:=hc;subst hx;subst hv;refine CM ⟨max n m,x',Hl,h',?_,q⟩;have tv:=IT.Ip (NH n m) hr;have h2:=IT.Ip (Bt (MB n m) (Gf _)) Fy;simp only[IT.step];simp only[FJ.run] at*;rw[tv];exact h2
theorem ew{f:FuncId}{args:List Aa}{k:Aa->IT}(ha:args.all Aa.Ls=true)(hc:Ev C f args [] λr _=>r.Ls=true/\W C (k r) Q h):W C (.Bk f args k) Q h:=by obtain⟨n,x,vs,h1,hr,hx,r,hv,Gv,m,x',Hl,h',Fy,q⟩:=hc;subst hx;subst hv;refine CM ⟨max n m,x',Hl,h',?_,q⟩;have tv:=IT.Ip (NH n m) hr;have h2:=IT.Ip (Bt (MB n m) (Gf _)) Fy;simp only[IT.step,ha,BO];simp only[FJ.run] at*;rw[tv];simp only[Gv,BO];exact h2
theorem yf{key:Nat}{t:IT}{k:EN->List Aa->IT}(hw:W C t (λx vs h1=>W C (k x vs) Q h1) h):W C (.Di key t k) Q h:=by obtain⟨n,x,vs,h1,hr,hw'⟩:=hw.succ;obtain⟨m,x',Hl,h',Fy,q⟩:=hw'.succ;refine CM ⟨max n m,x',Hl,h',?_,q⟩;have e1:=IT.JB (λt h r=>IT.Ip (fn:=B5 C) (NH n m)) _ _ _ hr;have e2:=IT.JB (λt h r=>IT.Ip (fn:=B5 C) (MB n m)) _ _ _ Fy;simp only[IT.step];simp only[FJ.run] at*;rw[e1];exact e2
end
end Go.Am
end
