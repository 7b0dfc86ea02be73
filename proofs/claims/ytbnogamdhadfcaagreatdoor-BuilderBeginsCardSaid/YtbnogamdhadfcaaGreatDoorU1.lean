/- Lemmas -/
import GoSem.Step
set_option linter.unusedVariables false
set_option linter.unusedSimpArgs false
theorem Ac:type_of%@Nat.le_refl:=@Nat.le_refl
theorem Ad:type_of%@List.getElem?_append_left:=@List.getElem?_append_left
theorem Af:type_of%@List.getElem?_eq_getElem:=@List.getElem?_eq_getElem
theorem Ag:type_of%@false_implies:=@false_implies
theorem Ah:type_of%@List.getElem?_eq_some_iff:=@List.getElem?_eq_some_iff
theorem Ai:type_of%@List.length_map:=@List.length_map
theorem Aj:type_of%@List.getElem?_set_ne:=@List.getElem?_set_ne
theorem Ak:type_of%@true_implies:=@true_implies
theorem Al:type_of%@List.length_take:=@List.length_take
theorem An:type_of%@not_false_eq_true:=@not_false_eq_true
theorem Ao:type_of%@List.mem_append:=@List.mem_append
theorem Ap:type_of%@not_true_eq_false:=@not_true_eq_false
theorem Aq:type_of%@List.length_append:=@List.length_append
theorem Av:type_of%@List.take_succ_eq_append_getElem:=@List.take_succ_eq_append_getElem
theorem Ay:type_of%@List.take_of_length_le:=@List.take_of_length_le
theorem AA:type_of%@decide_eq_false:=@decide_eq_false
theorem AB:type_of%@List.append_assoc:=@List.append_assoc
theorem AD:type_of%@decide_eq_true:=@decide_eq_true
theorem AE:type_of%@List.getD_eq_getElem?_getD:=@List.getD_eq_getElem?_getD
theorem AG:type_of%@List.drop_eq_getElem_cons:=@List.drop_eq_getElem_cons
theorem AJ:type_of%@List.getElem_mem:=@List.getElem_mem
theorem AM:type_of%@List.mem_cons:=@List.mem_cons
theorem AN:type_of%@List.getElem?_set_self:=@List.getElem?_set_self
theorem AO:type_of%@Nat.zero_le:=@Nat.zero_le
theorem AQ:type_of%@Int.toNat_natCast:=@Int.toNat_natCast
theorem AT:type_of%@Nat.lt_or_ge:=@Nat.lt_or_ge
theorem AV:type_of%@eq_true:=@eq_true
theorem AY:type_of%@List.Sublist.refl:=@List.Sublist.refl
theorem A0:type_of%@Array.getElem?_eq_some_iff:=@Array.getElem?_eq_some_iff
theorem A3:type_of%@List.drop_of_length_le:=@List.drop_of_length_le
theorem A7:type_of%@List.length_drop:=@List.length_drop
theorem Bc:type_of%@List.length_cons:=@List.length_cons
theorem Bf:type_of%@List.mem_of_mem_take:=@List.mem_of_mem_take
theorem Bg:type_of%@List.getElem?_append_right:=@List.getElem?_append_right
theorem Bj:type_of%@List.length_set:=@List.length_set
theorem Bk:type_of%@List.mem_map:=@List.mem_map
theorem Bl:type_of%@List.map_cons:=@List.map_cons
theorem Bn:type_of%@Nat.add_zero:=@Nat.add_zero
theorem Bs:type_of%@List.length_singleton:=@List.length_singleton
theorem Bt:type_of%@Nat.le_trans:=@Nat.le_trans
theorem Bu:type_of%@List.take_length:=@List.take_length
theorem Bw:type_of%@List.mem_of_mem_drop:=@List.mem_of_mem_drop
theorem BA:type_of%@Nat.add_mul:=@Nat.add_mul
theorem BB:type_of%@List.append_nil:=@List.append_nil
theorem BC:type_of%@Option.some.injEq:=@Option.some.injEq
theorem BH:type_of%@List.nil_append:=@List.nil_append
theorem BI:type_of%@List.map_append:=@List.map_append
theorem BJ:type_of%@Nat.zero_add:=@Nat.zero_add
theorem BK:type_of%@Bool.and_eq_true:=@Bool.and_eq_true
theorem BN:type_of%@if_true:=@if_true
theorem BR:type_of%@Option.map_some:=@Option.map_some
theorem BT:type_of%@List.length_nil:=@List.length_nil
theorem BU:type_of%@List.mem_append_right:=@List.mem_append_right
theorem BW:type_of%@List.nodup_cons:=@List.nodup_cons
theorem BY:type_of%@List.set_eq_take_append_cons_drop:=@List.set_eq_take_append_cons_drop
theorem B2:type_of%@List.set_append_right:=@List.set_append_right
theorem B6:type_of%@List.size_toArray:=@List.size_toArray
theorem B7:type_of%@List.nodup_append:=@List.nodup_append
theorem B8:type_of%@Nat.zero_lt_one:=@Nat.zero_lt_one
theorem Ce:type_of%@congrArg:=@congrArg
theorem Cg:type_of%@List.getElem?_take:=@List.getElem?_take
theorem Ch:type_of%@Array.length_toList:=@Array.length_toList
theorem Ci:type_of%@List.mem_filterMap:=@List.mem_filterMap
theorem Cn:type_of%@Nat.min_eq_left:=@Nat.min_eq_left
theorem Cp:type_of%@List.getElem?_map:=@List.getElem?_map
theorem Cs:type_of%@Option.bind_some:=@Option.bind_some
theorem Cu:type_of%@eq_self:=@eq_self
theorem Cz:type_of%@List.getElem?_drop:=@List.getElem?_drop
theorem CB:type_of%@List.cons_append:=@List.cons_append
theorem CD:type_of%@List.mem_of_getElem?:=@List.mem_of_getElem?
theorem CE:type_of%@List.mem_append_left:=@List.mem_append_left
theorem CK:type_of%@List.take_append_drop:=@List.take_append_drop
theorem CT:type_of%@List.getElem?_of_mem:=@List.getElem?_of_mem
theorem CU:type_of%@List.take_append_of_le_length:=@List.take_append_of_le_length
theorem CY:type_of%@List.getElem_map:=@List.getElem_map
theorem C2:type_of%@Bool.false_eq_true:=@Bool.false_eq_true
theorem C3:type_of%@Array.getElem?_eq_getElem:=@Array.getElem?_eq_getElem
theorem C8:type_of%@Nat.lt_irrefl:=@Nat.lt_irrefl
theorem C9:type_of%@List.getElem?_take_of_lt:=@List.getElem?_take_of_lt
theorem Db:type_of%@List.flatten_cons:=@List.flatten_cons
theorem Dd:type_of%@Nat.succ_pos:=@Nat.succ_pos
theorem Di:type_of%@List.mem_or_eq_of_mem_set:=@List.mem_or_eq_of_mem_set
theorem Ds:type_of%@decide_true:=@decide_true
theorem DB:type_of%@Nat.sub_self:=@Nat.sub_self
theorem DI:type_of%@decide_eq_true_eq:=@decide_eq_true_eq
theorem DQ:type_of%@List.map_nil:=@List.map_nil
theorem DR:type_of%@Ne.symm:=@Ne.symm
theorem DV:type_of%@List.mem_filter:=@List.mem_filter
theorem D1:type_of%@decide_eq_decide:=@decide_eq_decide
theorem Ea:type_of%@if_false:=@if_false
theorem Ey:type_of%@Nat.one_mul:=@Nat.one_mul
theorem Ez:type_of%@Nat.mul_le_mul_right:=@Nat.mul_le_mul_right
theorem EA:type_of%@List.filter_append:=@List.filter_append
theorem EC:type_of%@Option.some.inj:=@Option.some.inj
theorem EJ:type_of%@List.all_eq_true:=@List.all_eq_true
theorem EW:type_of%@List.eq_nil_of_length_eq_zero:=@List.eq_nil_of_length_eq_zero
theorem EX:type_of%@List.take_sublist:=@List.take_sublist
theorem E1:type_of%@List.getElem?_eq_none:=@List.getElem?_eq_none
theorem E7:type_of%@List.drop_drop:=@List.drop_drop
theorem Fj:type_of%@decide_false:=@decide_false
theorem Fk:type_of%@List.map_set:=@List.map_set
theorem Fl:type_of%@List.mem_singleton:=@List.mem_singleton
theorem Fq:type_of%@Int.le_refl:=@Int.le_refl
theorem Fs:type_of%@List.drop_length:=@List.drop_length
theorem FQ:type_of%@List.reverse_cons:=@List.reverse_cons
theorem FX:type_of%@List.length_pos_iff:=@List.length_pos_iff
theorem Gg:type_of%@Nat.le_succ:=@Nat.le_succ
theorem Gt:type_of%@List.filterMap_append:=@List.filterMap_append
theorem GH:type_of%@Nat.add_sub_cancel:=@Nat.add_sub_cancel
theorem GV:type_of%@List.take_take:=@List.take_take
theorem GW:type_of%@List.take_left:=@List.take_left
theorem GX:type_of%@List.reverse_reverse:=@List.reverse_reverse
theorem Hr:type_of%@List.cons.injEq:=@List.cons.injEq
theorem HD:type_of%@List.findIdx?_eq_some_iff_findIdx_eq:=@List.findIdx?_eq_some_iff_findIdx_eq
theorem HS:type_of%@List.map_take:=@List.map_take
theorem Ib:type_of%@Option.getD_some:=@Option.getD_some
theorem Ic:type_of%@Nat.le_add_right:=@Nat.le_add_right
theorem Iq:type_of%@List.length_replicate:=@List.length_replicate
theorem I0:type_of%@List.find?_cons:=@List.find?_cons
theorem I3:type_of%@bne_self_eq_false:=@bne_self_eq_false
theorem Jf:type_of%@Array.ext':=@Array.ext'
theorem Jg:type_of%@Bool.false_or:=@Bool.false_or
theorem Jh:type_of%@List.getElem_append_left:=@List.getElem_append_left
theorem Js:type_of%@Array.toList_append:=@Array.toList_append
theorem JM:type_of%@List.getElem?_cons_zero:=@List.getElem?_cons_zero
theorem JN:type_of%@Bool.not_false:=@Bool.not_false
theorem JO:type_of%@List.filter_cons:=@List.filter_cons
theorem Kk:type_of%@Nat.mul_one:=@Nat.mul_one
theorem KJ:type_of%@List.take_left':=@List.take_left'
theorem KS:type_of%@Prod.mk.injEq:=@Prod.mk.injEq
theorem Lo:type_of%@Array.getD_eq_getD_getElem?:=@Array.getD_eq_getD_getElem?
theorem L0:type_of%@List.take_zero:=@List.take_zero
theorem L1:type_of%@Int.not_lt:=@Int.not_lt
theorem My:type_of%@Nat.le_max_right:=@Nat.le_max_right
theorem MD:type_of%@List.extract_eq_take_drop:=@List.extract_eq_take_drop
theorem Nd:type_of%@Int.toNat_of_nonneg:=@Int.toNat_of_nonneg
theorem Nf:type_of%@List.reverse_append:=@List.reverse_append
theorem Ng:type_of%@List.filterMap_cons:=@List.filterMap_cons
theorem NB:type_of%@and_true:=@and_true
theorem NC:type_of%@true_and:=@true_and
theorem ND:type_of%@List.map_drop:=@List.map_drop
theorem NF:type_of%@Nat.le_max_left:=@Nat.le_max_left
theorem NG:type_of%@List.drop_left':=@List.drop_left'
theorem Ou:type_of%@Nat.eq_zero_or_pos:=@Nat.eq_zero_or_pos
theorem OW:type_of%@Nat.le_mul_of_pos_right:=@Nat.le_mul_of_pos_right
theorem OX:type_of%@Int.eq_ofNat_of_zero_le:=@Int.eq_ofNat_of_zero_le
theorem Qh:type_of%@List.drop_zero:=@List.drop_zero
theorem Qi:type_of%@Array.size_append:=@Array.size_append
theorem Qj:type_of%@List.reverse_singleton:=@List.reverse_singleton
theorem Rt:type_of%@List.singleton_append:=@List.singleton_append
theorem Ru:type_of%@List.set_getElem_self:=@List.set_getElem_self
theorem Sp:type_of%@Array.eq_empty_of_size_eq_zero:=@Array.eq_empty_of_size_eq_zero
theorem TH:type_of%@Array.replicate_succ:=@Array.replicate_succ
theorem TI:type_of%@Array.replicate_zero:=@Array.replicate_zero
theorem TJ:type_of%@List.drop_append_of_le_length:=@List.drop_append_of_le_length
theorem Wl:type_of%@List.toList_toArray:=@List.toList_toArray
theorem Wm:type_of%@List.flatten_append:=@List.flatten_append
theorem Wn:type_of%@List.append_toArray:=@List.append_toArray
theorem Wo:type_of%@List.length_reverse:=@List.length_reverse
theorem WS:type_of%@Nat.le_of_eq:=@Nat.le_of_eq
theorem WT:type_of%@Nat.le_of_lt:=@Nat.le_of_lt
theorem Zz:type_of%@Nat.lt_of_lt_of_le:=@Nat.lt_of_lt_of_le
theorem ZA:type_of%@List.find?_eq_none:=@List.find?_eq_none
theorem dS:type_of%@List.getLast?_eq_getElem?:=@List.getLast?_eq_getElem?
theorem eB:type_of%@List.flatMap_cons:=@List.flatMap_cons
theorem eC:type_of%@List.push_toArray:=@List.push_toArray
theorem kC:type_of%@Bool.not_true:=@Bool.not_true
theorem kD:type_of%@Bool.bne_true:=@Bool.bne_true
theorem tL:type_of%@Array.toList_map:=@Array.toList_map
theorem tM:type_of%@List.getElem?_cons_succ:=@List.getElem?_cons_succ
theorem tN:type_of%@Nat.lt_succ_self:=@Nat.lt_succ_self
theorem tO:type_of%@List.length_eq_zero_iff:=@List.length_eq_zero_iff
theorem cy:type_of%@Nat.ne_of_lt:=@Nat.ne_of_lt
theorem cz:type_of%@Nat.zero_mul:=@Nat.zero_mul
theorem c_:type_of%@Option.map_eq_some_iff:=@Option.map_eq_some_iff
theorem da:type_of%@Bool.true_or:=@Bool.true_or
theorem s_:type_of%@Array.getElem?_modify:=@Array.getElem?_modify
theorem aCD:type_of%@Array.toList_extract:=@Array.toList_extract
theorem aIi:type_of%@List.take_succ_cons:=@List.take_succ_cons
theorem aIj:type_of%@List.take_set_of_le:=@List.take_set_of_le
theorem aIk:type_of%@List.mem_map_of_mem:=@List.mem_map_of_mem
abbrev aSD:List UInt8:=[97,116,116,114,105,98,117,116,101,78,97,109,101,32,97,116,116,114,105,98,117,116,101,84,121,112,101,32,98,97,115,101,70,114,101,113,117,101,110,99,121,32,98,97,115,101,80,114,111,102,105,108,101,32,99,97,108,99,77,111,100,101,32,99,108,105,112,80,97,116,104,85,110,105,116,115,32,100,105,102,102,117,115,101,67,111,110,115,116,97,110,116,32,101,100,103,101,77,111,100,101,32,102,105,108,116,101,114,85,110,105,116,115,32,103,108,121,112,104,82,101,102,32,103,114,97,100,105,101,110,116,84,114,97,110,115,102,111,114,109,32,103,114,97,100,105,101,110,116,85,110,105,116,115,32,107,101,114,110,101,108,77,97,116,114,105,120,32,107,101,114,110,101,108,85,110,105,116,76,101,110,103,116,104,32,107,101,121,80,111,105,110,116,115,32,107,101,121,83,112,108,105,110,101,115,32,107,101,121,84,105,109,101,115,32,108,101,110,103,116,104,65,100,106,117,115,116,32,108,105,109,105,116,105,110,103,67,111,110,101,65,110,103,108,101,32,109,97,114,107,101,114,72,101,105,103,104,116,32,109,97,114,107,101,114,85,110,105,116,115,32,109,97,114,107,101,114,87,105,100,116,104,32,109,97,115,107,67,111,110,116,101,110,116,85,110,105,116,115,32,109,97,115,107,85,110,105,116,115,32,110,117,109,79,99,116,97,118,101,115,32,112,97,116,104,76,101,110,103,116,104,32,112,97,116,116,101,114,110,67,111,110,116,101,110,116,85,110,105,116,115,32,112,97,116,116,101,114,110,84,114,97,110,115,102,111,114,109,32,112,97,116,116,101,114,110,85,110,105,116,115,32,112,111,105,110,116,115,65,116,88,32,112,111,105,110,116,115,65,116,89,32,112,111,105,110,116,115,65,116,90,32,112,114,101,115,101,114,118,101,65,108,112,104,97,32,112,114,101,115,101,114,118,101,65,115,112,101,99,116,82,97,116,105,111,32,112,114,105,109,105,116,105,118,101,85,110,105,116,115,32,114,101,102,88,32,114,101,102,89,32,114,101,112,101,97,116,67,111,117,110,116,32,114,101,112,101,97,116,68,117,114,32,114,101,113,117,105,114,101,100,69,120,116,101,110,115,105,111,110,115,32,114,101,113,117,105,114,101,100,70,101,97,116,117,114,101,115,32,115,112,101,99,117,108,97,114,67,111,110,115,116,97,110,116,32,115,112,101,99,117,108,97,114,69,120,112,111,110,101,110,116,32,115,112,114,101,97,100,77,101,116,104,111,100,32,115,116,97,114,116,79,102,102,115,101,116,32,115,116,100,68,101,118,105,97,116,105,111,110,32,115,116,105,116,99,104,84,105,108,101,115,32,115,117,114,102,97,99,101,83,99,97,108,101,32,115,121,115,116,101,109,76,97,110,103,117,97,103,101,32,116,97,98,108,101,86,97,108,117,101,115,32,116,97,114,103,101,116,88,32,116,97,114,103,101,116,89,32,116,101,120,116,76,101,110,103,116,104,32,118,105,101,119,66,111,120,32,118,105,101,119,84,97,114,103,101,116,32,120,67,104,97,110,110,101,108,83,101,108,101,99,116,111,114,32,121,67,104,97,110,110,101,108,83,101,108,101,99,116,111,114,32,122,111,111,109,65,110,100,80,97,110]
abbrev aSE:List UInt8:=[97,100,100,114,101,115,115,32,97,112,112,108,101,116,32,97,114,101,97,32,97,114,116,105,99,108,101,32,97,115,105,100,101,32,98,97,115,101,32,98,97,115,101,102,111,110,116,32,98,103,115,111,117,110,100,32,98,108,111,99,107,113,117,111,116,101,32,98,111,100,121,32,98,114,32,98,117,116,116,111,110,32,99,97,112,116,105,111,110,32,99,101,110,116,101,114,32,99,111,108,32,99,111,108,103,114,111,117,112,32,100,100,32,100,101,116,97,105,108,115,32,100,105,114,32,100,105,118,32,100,108,32,100,116,32,101,109,98,101,100,32,102,105,101,108,100,115,101,116,32,102,105,103,99,97,112,116,105,111,110,32,102,105,103,117,114,101,32,102,111,111,116,101,114,32,102,111,114,109,32,102,114,97,109,101,32,102,114,97,109,101,115,101,116,32,104,49,32,104,50,32,104,51,32,104,52,32,104,53,32,104,54,32,104,101,97,100,32,104,101,97,100,101,114,32,104,103,114,111,117,112,32,104,114,32,104,116,109,108,32,105,102,114,97,109,101,32,105,109,103,32,105,110,112,117,116,32,107,101,121,103,101,110,32,108,105,32,108,105,110,107,32,108,105,115,116,105,110,103,32,109,97,105,110,32,109,97,114,113,117,101,101,32,109,101,110,117,32,109,101,116,97,32,110,97,118,32,110,111,101,109,98,101,100,32,110,111,102,114,97,109,101,115,32,110,111,115,99,114,105,112,116,32,111,98,106,101,99,116,32,111,108,32,112,32,112,97,114,97,109,32,112,108,97,105,110,116,101,120,116,32,112,114,101,32,115,99,114,105,112,116,32,115,101,97,114,99,104,32,115,101,99,116,105,111,110,32,115,101,108,101,99,116,32,115,111,117,114,99,101,32,115,116,121,108,101,32,115,117,109,109,97,114,121,32,116,97,98,108,101,32,116,98,111,100,121,32,116,100,32,116,101,109,112,108,97,116,101,32,116,101,120,116,97,114,101,97,32,116,102,111,111,116,32,116,104,32,116,104,101,97,100,32,116,105,116,108,101,32,116,114,32,116,114,97,99,107,32,117,108,32,119,98,114,32,120,109,112]
abbrev aSF:List UInt8:=[97,108,116,71,108,121,112,104,32,97,108,116,71,108,121,112,104,68,101,102,32,97,108,116,71,108,121,112,104,73,116,101,109,32,97,110,105,109,97,116,101,67,111,108,111,114,32,97,110,105,109,97,116,101,77,111,116,105,111,110,32,97,110,105,109,97,116,101,84,114,97,110,115,102,111,114,109,32,99,108,105,112,80,97,116,104,32,102,101,66,108,101,110,100,32,102,101,67,111,108,111,114,77,97,116,114,105,120,32,102,101,67,111,109,112,111,110,101,110,116,84,114,97,110,115,102,101,114,32,102,101,67,111,109,112,111,115,105,116,101,32,102,101,67,111,110,118,111,108,118,101,77,97,116,114,105,120,32,102,101,68,105,102,102,117,115,101,76,105,103,104,116,105,110,103,32,102,101,68,105,115,112,108,97,99,101,109,101,110,116,77,97,112,32,102,101,68,105,115,116,97,110,116,76,105,103,104,116,32,102,101,68,114,111,112,83,104,97,100,111,119,32,102,101,70,108,111,111,100,32,102,101,70,117,110,99,65,32,102,101,70,117,110,99,66,32,102,101,70,117,110,99,71,32,102,101,70,117,110,99,82,32,102,101,71,97,117,115,115,105,97,110,66,108,117,114,32,102,101,73,109,97,103,101,32,102,101,77,101,114,103,101,32,102,101,77,101,114,103,101,78,111,100,101,32,102,101,77,111,114,112,104,111,108,111,103,121,32,102,101,79,102,102,115,101,116,32,102,101,80,111,105,110,116,76,105,103,104,116,32,102,101,83,112,101,99,117,108,97,114,76,105,103,104,116,105,110,103,32,102,101,83,112,111,116,76,105,103,104,116,32,102,101,84,105,108,101,32,102,101,84,117,114,98,117,108,101,110,99,101,32,102,111,114,101,105,103,110,79,98,106,101,99,116,32,103,108,121,112,104,82,101,102,32,108,105,110,101,97,114,71,114,97,100,105,101,110,116,32,114,97,100,105,97,108,71,114,97,100,105,101,110,116,32,116,101,120,116,80,97,116,104]
abbrev aSG:List UInt8:=[97,112,112,108,101,116,32,99,97,112,116,105,111,110,32,104,116,109,108,32,109,97,114,113,117,101,101,32,111,98,106,101,99,116,32,116,97,98,108,101,32,116,100,32,116,101,109,112,108,97,116,101,32,116,104]
abbrev aSH:List UInt8:=[120,108,105,110,107,58,97,99,116,117,97,116,101,32,120,108,105,110,107,58,97,114,99,114,111,108,101,32,120,108,105,110,107,58,104,114,101,102,32,120,108,105,110,107,58,114,111,108,101,32,120,108,105,110,107,58,115,104,111,119,32,120,108,105,110,107,58,116,105,116,108,101,32,120,108,105,110,107,58,116,121,112,101]
abbrev aSI:List UInt8:=[116,101,109,112,108,97,116,101]
abbrev aSJ:List UInt8:=[100,100,32,100,116,32,108,105,32,111,112,116,103,114,111,117,112,32,111,112,116,105,111,110,32,112,32,114,98,32,114,112,32,114,116,32,114,116,99]
abbrev aSK:List UInt8:=[99,97,112,116,105,111,110,32,99,111,108,103,114,111,117,112,32,116,98,111,100,121,32,116,100,32,116,102,111,111,116,32,116,104,32,116,104,101,97,100,32,116,114]
abbrev aSL:List UInt8:=[97,110,110,111,116,97,116,105,111,110,45,120,109,108]
abbrev aSM:List UInt8:=[116,97,98,108,101,32,116,98,111,100,121,32,116,102,111,111,116,32,116,104,101,97,100,32,116,114]
abbrev aSN:List UInt8:=[100,101,115,99,32,102,111,114,101,105,103,110,79,98,106,101,99,116,32,116,105,116,108,101]
abbrev aSO:List UInt8:=[116,97,98,108,101]
abbrev aSP:List UInt8:=[98,117,116,116,111,110]
abbrev aSQ:List UInt8:=[97,112,112,108,105,99,97,116,105,111,110,47,120,104,116,109,108,43,120,109,108]
abbrev aSR:List UInt8:=[104,116,109,108]
abbrev aSS:List UInt8:=[120,109,108,110,115,58,120,108,105,110,107]
abbrev aST:List UInt8:=[99,97,112,116,105,111,110]
abbrev aSU:List UInt8:=[104,116,109,108,32,116,97,98,108,101,32,116,101,109,112,108,97,116,101]
abbrev aSV:List UInt8:=[102,111,114,101,105,103,110,79,98,106,101,99,116]
abbrev aSW:List UInt8:=[120,108,105,110,107,58,97,114,99,114,111,108,101]
abbrev aSX:List UInt8:=[120,108,105,110,107,58,97,99,116,117,97,116,101]
abbrev aSY:List UInt8:=[109,105,32,109,110,32,109,111,32,109,115,32,109,116,101,120,116]
abbrev aSZ:List UInt8:=[111,112,116,103,114,111,117,112,32,111,112,116,105,111,110]
abbrev aS0:List UInt8:=[120,108,105,110,107,58,116,105,116,108,101]
abbrev aS1:List UInt8:=[120,109,108,58,115,112,97,99,101]
abbrev aS2:List UInt8:=[120,109,108,110,115]
abbrev aS3:List UInt8:=[111,112,116,103,114,111,117,112]
abbrev aS4:List UInt8:=[99,111,108,103,114,111,117,112]
abbrev aS5:List UInt8:=[120,108,105,110,107,58,104,114,101,102]
abbrev aS6:List UInt8:=[120,108,105,110,107,58,114,111,108,101]
abbrev aS7:List UInt8:=[120,108,105,110,107,58,115,104,111,119]
abbrev aS8:List UInt8:=[120,108,105,110,107,58,116,121,112,101]
abbrev aS9:List UInt8:=[100,101,102,105,110,105,116,105,111,110,117,114,108]
abbrev aTa:List UInt8:=[120,109,108,58,108,97,110,103]
abbrev aTb:List UInt8:=[100,101,102,105,110,105,116,105,111,110,85,82,76]
abbrev aTc:List UInt8:=[116,102,111,111,116]
abbrev aTd:List UInt8:=[116,98,111,100,121]
abbrev aTe:List UInt8:=[116,104,101,97,100]
abbrev aTf:List UInt8:=[116,105,116,108,101]
abbrev aTg:List UInt8:=[111,112,116,105,111,110]
abbrev aTh:List UInt8:=[116,101,120,116,47,104,116,109,108]
abbrev aTi:List UInt8:=[120,108,105,110,107]
abbrev aTj:List UInt8:=[101,110,99,111,100,105,110,103]
abbrev aTk:List UInt8:=[102,114,97,109,101,115,101,116]
abbrev aTl:List UInt8:=[115,101,108,101,99,116]
abbrev aTm:List UInt8:=[109,97,114,113,117,101,101]
abbrev aTn:List UInt8:=[97,114,99,114,111,108,101]
abbrev aTo:List UInt8:=[97,99,116,117,97,116,101]
abbrev aTp:List UInt8:=[97,112,112,108,101,116]
abbrev aTq:List UInt8:=[111,98,106,101,99,116]
abbrev aTr:List UInt8:=[100,101,115,99]
abbrev aTs:List UInt8:=[104,101,97,100]
abbrev aTt:List UInt8:=[111,108,32,117,108]
abbrev aTu:List UInt8:=[115,112,97,99,101]
abbrev aTv:List UInt8:=[104,114,101,102]
abbrev aTw:List UInt8:=[114,111,108,101]
abbrev aTx:List UInt8:=[115,104,111,119]
abbrev aTy:List UInt8:=[116,121,112,101]
section
section
namespace Go.Am
abbrev As:=List UInt8
inductive Aa where
 |bool (b:Bool)
 |int (k:IntKind) (n:Int)
 |str (s:As)
 |ptr (p:Option (Nat×Nat))
 |CA (cells:List Aa)
 |sl (size:Nat) (Au:List (List Aa))
 |slnil
 |Cm (id off len size:Nat)
 |map (m:Option Nat)
 |func (fn:Fn) (first captured:List Aa)
 |nilFunc
 |iface (t:TypeId) (v:Aa)
 |nilIface
 |agg (cells:List Aa)
 |tuple (vs:List Aa)
 deriving Inhabited
mutual
def Aa.beq:Aa->Aa->Bool
 | .bool a,.bool b=>a==b
 | .int k a,.int l b=>k==l&&a==b
 | .str a,.str b=>a==b
 | .ptr a,.ptr b=>a==b
 | .CA a,.CA b=>Aa.Qn a b
 | .sl n a,.sl m b=>n==m&&Aa.Qo a b
 | .slnil,.slnil=>true
 | .Cm a b c d,.Cm a' b' c' d'=>a==a'&&b==b'&&c==c'&&d==d'
 | .map a,.map b=>a==b
 | .func f a b,.func f' a' b'=>f==f'&&Aa.Qn a a'&&Aa.Qn b b'
 | .nilFunc,.nilFunc=>true
 | .iface t a,.iface t' a'=>t==t'&&Aa.beq a a'
 | .nilIface,.nilIface=>true
 | .agg a,.agg b=>Aa.Qn a b
 | .tuple a,.tuple b=>Aa.Qn a b
 |_,_=>false
def Aa.Qn:List Aa->List Aa->Bool
 |[],[]=>true
 |a::x,b::y=>Aa.beq a b&&Aa.Qn x y
 |_,_=>false
def Aa.Qo:List (List Aa)->List (List Aa)->Bool
 |[],[]=>true
 |a::x,b::y=>Aa.Qn a b&&Aa.Qo x y
 |_,_=>false
end
def Aa.cells:Aa->List Aa
 | .agg cs=>cs
 | .tuple _=>[]
 |v=>[v]
inductive De where
 |cells (cs:List Aa)
 |map (es:List (Aa×Aa))
 |CG
 deriving Inhabited
abbrev Ae:=List De
inductive uD where
 |copy (size:Nat)
 |clear (size:Nat) (zero:List Aa)
 |pZ (size:Nat) (lo hi:Bool)
 |eD (size:Nat)
 |aDh (t:TypeId)
 |dn (zero:Aa) (ok:Bool)
 |ME (zero:Aa)
 |LM
 |p8
 |PD (g:Ae->List Aa->Option (Ae×Aa))
def uD.aDi:uD->Bool
 | .eD _| .clear _ _| .LM=>true
 |_=>false
inductive D6 where
 |undef
 |skip
 |val (v:Aa)
 |Nq (b:Bool)
 |own (v:Aa)
 |box (ver:Nat) (cells:List Aa) (own:List Nat)
 |EG (s off:Nat)
 deriving Inhabited
abbrev BD:=List D6
def BD.at(σ:BD)(s:Nat):D6:=σ.getD s .undef
def D6.Gu:D6->Option Aa
 | .val v| .own v=>some v
 | .Nq b=>some (.bool b)
 |_=>none
inductive FK where
 |b|i|s
 deriving DecidableEq,Inhabited
inductive NK where
 |sl|fn|mp
 deriving DecidableEq,Inhabited
inductive We where
 |int (op:BinOp)
 |str (op:BinOp)
 |beq (neg:Bool)
 |geq (neg:Bool) (ks:List FK)
 |Nr (neg:Bool)
 |GL (neg:Bool) (k:NK)
 |un (op:UnOp)
 |conv(k:IntKind)
 |pick
 |part (off:Nat) (n:Option Nat)
 |xu (len size:Nat) (n:Option Nat)
 |Rv
 |D8 (off:Nat)
 |Fm (size:Nat)
 |Ub (len size:Nat)
 |len (isStr:Bool)
 |append (size bytes:Nat)
 |Hs (size:Nat) (isStr lo hi:Bool)
 |ext (i:Nat)
 |KT
 |By (size:Nat)
 |Br (zero:List Aa) (places:List (Nat×Nat))
 |Kl (isMax:Bool)
 |S7
 |s2b
 |i2s
 deriving Inhabited
def NH:Value->Option Aa
 | .bool b=>some (.bool b)
 | .int k n=>some (.int k n)
 | .string s=>some (.str s.data.toList)
 | .pointer none=>some (.ptr none)
 | .slice none 0 0=>some .slnil
 | .map none=>some (.map none)
 | .func fn f c=>if f.size=0/\c.size=0 then some (.func fn [] []) else none
 | .nilFunc=>some .nilFunc
 | .nilIface=>some .nilIface
 |_=>none
def KK:List Value->Option (List Aa)
 |[]=>some []
 |v::vs=>match NH v,KK vs with
  |some a,some as=>some (a::as)
  |_,_=>none
def JP:Value->Option Aa
 | .agg cs=>(KK cs.toList).map .agg
 |v=>NH v
def Ov:Sem Value->Option Value
 | .pure v=>some v
 |_=>none
def AS:Nat:=140737488355328
def kE(op:BinOp)(k:IntKind)(a:Int)(l:IntKind)(b:Int):Option Aa:=
 (Ov (binOp op 0 (.int k a) (.int l b))).bind λv=>match v with
  | .int k n=>some (.int k n)
  | .bool b=>some (.bool b)
  |_=>none
def ZL(op:BinOp)(a b:As):Option Aa:=
 match op with
 | .add=>if a.length+b.length<=9223372036854775807 then some (.str (a++b)) else none
 | .eql=>some (.bool (a==b))
 | .neq=>some (.bool (!(a==b)))
 | .lss=>some (.bool (Op.bytesLess a b))
 | .leq=>some (.bool (Op.bytesLess a b||a==b))
 | .gtr=>some (.bool (!(Op.bytesLess a b||a==b)))
 | .geq=>some (.bool (!(Op.bytesLess a b)))
 |_=>none
def Km:FK->Aa->Aa->Option Bool
 | .b,.bool a,.bool b=>some (a==b)
 | .i,.int k a,.int l b=>if k=l then some (a==b) else none
 | .s,.str a,.str b=>some (a==b)
 |_,_,_=>none
def DC:List FK->List Aa->List Aa->Option Bool
 |[],[],[]=>some true
 |k::ks,a::x,b::y=>match Km k a b,DC ks x y with
  |some e,some es=>some (e&&es)
  |_,_=>none
 |_,_,_=>none
def ZM:Aa->Aa->Option Bool
 | .ptr none,.ptr b=>some b.isNone
 | .ptr (some _),.ptr none=>some false
 | .ptr (some a),.ptr (some b)=>if a=b then some true else none
 | .ptr none,.CA _=>some false
 | .CA _,.ptr none=>some false
 |_,_=>none
def kF:NK->Aa->Aa->Option Bool
 | .sl,.slnil,.slnil=>some true
 | .sl,.slnil,.sl _ _=>some false
 | .sl,.sl _ _,.slnil=>some false
 | .sl,.slnil,.Cm _ _ _ _=>some false
 | .sl,.Cm _ _ _ _,.slnil=>some false
 | .fn,.nilFunc,.nilFunc=>some true
 | .fn,.nilFunc,.func _ _ _=>some false
 | .fn,.func _ _ _,.nilFunc=>some false
 | .mp,.map none,.map b=>some b.isNone
 | .mp,.map (some _),.map none=>some false
 |_,_,_=>none
def EO(cs:List Aa)(off:Nat):Option Nat->Option Aa
 |none=>cs[off]?
 |some n=>if off+n<=cs.length then some (.agg ((cs.drop off).take n)) else none
def L4(n:Int)(len:Nat):Option Nat:=if 0<=n/\n<len then some n.toNat else none
def EK(n:Int)(top:Nat):Option Nat:=if 0<=n/\n<=top then some n.toNat else none
def DH(lo hi:Bool)(len:Nat)(as:List Aa):Option (Nat×Nat):=
 match lo,hi with
 |false,false=>match as with
  |[]=>some (0,len)
  |_=>none
 |false,true=>match as with
  |[.int _ h]=>(EK h len).map λh=>(0,h)
  |_=>none
 |true,false=>match as with
  |[.int _ l]=>(EK l len).map λl=>(l,len)
  |_=>none
 |true,true=>match as with
  |[.int _ l,.int _ h]=>(EK h len).bind λh=>(EK l h).map λl=>(l,h)
  |_=>none
def Lr:List (List Aa)->Option As
 |[]=>some []
 |[.int .u8 n]::rs=>(Lr rs).map λl=>n.toNat.toUInt8::l
 |_=>none
def BZ(s:As):List (List Aa):=s.map λb=>[.int .u8 b.toNat]
def DN(size bytes:Nat)(s:Aa)(Au:List (List Aa)):Option Aa:=
 match Au with
 |[]=>match s with
  | .slnil=>some .slnil
  | .sl z r=>if z=size then some (.sl z r) else none
  |_=>none
 |Au=>match s with
  | .slnil=>if Au.length*bytes<=AS then some (.sl size Au) else none
  | .sl z r=>if z=size/\(r.length+Au.length)*bytes<=AS then some (.sl size (r++Au)) else none
  |_=>none
def AI(cs:List Aa):List ((Nat×Nat)×Aa)->Option (List Aa)
 |[]=>some cs
 |((off,size),v)::rest=>if 0<size/\v.cells.length=size/\off+size<=cs.length then AI (cs.take off++v.cells++cs.drop (off+size)) rest else none
def td(k:IntKind)(n:Int):Option Aa:=
 (Ov (Op.unary .xor (.int k n))).bind λv=>match v with
  | .int k n=>some (.int k n)
  |_=>none
def xw:UnOp->Aa->Option Aa
 | .not,.bool b=>some (.bool (!b))
 | .neg,.int k n=>some (.int k (k.wrap (0 -n)))
 | .xor,.int k n=>td k n
 |_,_=>none
def WU(p:Aa)(off:Nat):Option Aa:=
 match p with
 | .CA cs=>some (.CA (cs.drop off))
 | .ptr (some (id,o))=>some (.ptr (some (id,o+off)))
 |_=>none
def elemOf(size:Nat)(s:Aa)(i:Int):Option Aa:=
 match s with
 | .sl z Au=>if z=size then(if 0<=i then(Au[i.toNat]?).map .CA else none) else none
 | .Cm id off len z=>if z=size then(L4 i len).map λi=> .ptr (some (id,off+i*size)) else none
 |_=>none
def lenOf(isStr:Bool)(s:Aa):Option Aa:=
 match s with
 | .sl _ Au=>if isStr then none else some (.int .i64 Au.length)
 | .Cm _ _ n _=>if isStr then none else some (.int .i64 n)
 | .slnil=>if isStr then none else some (.int .i64 0)
 | .str s=>if isStr then some (.int .i64 s.length) else none
 |_=>none
def HE(size bytes:Nat)(s x:Aa):Option Aa:=
 match x with
 | .slnil=>DN size bytes s []
 | .sl z Au=>if z=size then DN size bytes s Au else none
 | .str x=>if size=1 then DN size bytes s (BZ x) else none
 |_=>none
def I4(size:Nat)(isStr lo hi:Bool)(s:Aa)(as:List Aa):Option Aa:=
 match s with
 | .str s=>if isStr then(DH lo hi s.length as).map λ(l,h)=> .str ((s.take h).drop l) else none
 | .sl z Au=>if isStr=false/\z=size then(DH lo hi Au.length as).map λ(l,h)=> .sl z ((Au.take h).drop l) else none
 | .Cm id off n z=>if isStr=false/\z=size then(DH lo hi n as).bind λ(l,h)=>if l<n then some (.Cm id (off+l*z) (h-l) z) else some (.sl z []) else none
 | .slnil=>if isStr then none else(DH lo hi 0 as).map λ_=> .slnil
 |_=>none
def ZN:Aa->Option Aa
 | .ptr (some p)=>some (.ptr (some p))
 | .CA cs=>some (.CA cs)
 | .func (.func f) a b=>some (.func (.func f) a b)
 |_=>none
def Uc:Aa->Option Aa
 | .sl 1 Au=>(Lr Au).map .str
 | .slnil=>some (.str [])
 |_=>none
def Aw(p:We)(args:List Aa):Option Aa:=
 match p with
 | .int op=>match args with
  |[.int k a,.int l b]=>kE op k a l b
  |_=>none
 | .str op=>match args with
  |[.str a,.str b]=>ZL op a b
  |_=>none
 | .beq neg=>match args with
  |[.bool a,.bool b]=>some (.bool ((a==b) != neg))
  |_=>none
 | .geq neg ks=>match args with
  |[.agg a,.agg b]=>(DC ks a b).map λe=> .bool (e != neg)
  |_=>none
 | .Nr neg=>match args with
  |[a,b]=>(ZM a b).map λe=> .bool (e != neg)
  |_=>none
 | .GL neg k=>match args with
  |[a,b]=>(kF k a b).map λe=> .bool (e != neg)
  |_=>none
 | .un op=>match args with
  |[v]=>xw op v
  |_=>none
 | .conv k=>match args with
  |[.int _ n]=>some (.int k (k.wrap n))
  |_=>none
 | .i2s=>match args with
  |[.int _ n]=>some (.str (Utf8.encode n).data.toList)
  |_=>none
 | .pick=>match args with
  |[.bool c,a,b]=>some (if c then a else b)
  |_=>none
 | .part off n=>match args with
  |[.agg cs]=>EO cs off n
  |_=>none
 | .xu len size n=>match args with
  |[.agg cs,.int _ i]=>(L4 i len).bind λi=>EO cs (i*size) n
  |_=>none
 | .Rv=>match args with
  |[.str s,.int _ i]=>if 0<=i then(s[i.toNat]?).map λb=> .int .u8 b.toNat else none
  |_=>none
 | .D8 off=>match args with
  |[p]=>WU p off
  |_=>none
 | .Fm size=>match args with
  |[s,.int _ i]=>elemOf size s i
  |_=>none
 | .Ub len size=>match args with
  |[p,.int _ i]=>(L4 i len).bind λi=>WU p (i*size)
  |_=>none
 | .len isStr=>match args with
  |[s]=>lenOf isStr s
  |_=>none
 | .append size bytes=>match args with
  |[s,x]=>HE size bytes s x
  |_=>none
 | .Hs size isStr lo hi=>match args with
  |s::as=>I4 size isStr lo hi s as
  |_=>none
 | .ext i=>match args with
  |[.tuple vs]=>vs[i]?
  |_=>none
 | .KT=>match args with
  |[v]=>ZN v
  |_=>none
 | .By size=>if args.all (λa=>a.cells.length==size)&&decide (args.length*size<=16777216) then some (.sl size (args.map (·.cells))) else none
 | .Br zero places=>if places.length=args.length then(AI zero (places.zip args)).map .agg else none
 | .Kl isMax=>match args with
  |[.int k a,.int l b]=>if k=l then some (.int k (if isMax then(if b>a then b else a) else(if b<a then b else a))) else none
  |_=>none
 | .S7=>match args with
  |[v]=>Uc v
  |_=>none
 | .s2b=>match args with
  |[.str s]=>if s.length<=AS then some (.sl 1 (BZ s)) else none
  |_=>none
inductive EL where
 |normal
 |exit (id:Nat)
 |ret
 deriving DecidableEq,Inhabited
inductive IT where
 |ret (x:EL) (vs:List Aa)
 |fail
 |op (o:We) (args:List Aa) (k:Aa->IT)
 |cells (n:Nat) (v:Aa) (k:List Aa->IT)
 |AH (c:Aa) (t e:IT)
 |load (n:Option Nat) (p:Aa) (k:Aa->IT)
 |store (n:Nat) (p v:Aa) (k:IT)
 |alloc (n:Nat) (v:Aa) (k:Aa->IT)
 |call (f:FuncId) (args:List Aa) (k:Aa->IT)
 |FH (fn:Aa) (args:List Aa) (k:Aa->IT)
 |Be (f:FuncId) (args:List Aa) (k:Aa->IT)
 |loop (key:Nat) (init:List Aa) (body:List Aa->IT) (k:EL->List Aa->IT)
 |Dg (key:Nat) (t:IT) (k:EL->List Aa->IT)
 |same (a b:Aa) (k:IT)
 |OY (k:Aa->IT)
 |JY (m key v:Aa) (k:IT)
 |L5 (zero:Aa) (ok:Bool) (m key:Aa) (k:Aa->IT)
 |make (size bytes:Nat) (zero:List Aa) (len cap:Aa) (k:Aa->IT)
 |Ht (size bytes:Nat) (s x:Aa) (k:Aa->IT)
 |E9 (s:Aa) (k:Aa->IT)
 |KU (v:Aa) (k:Aa->IT)
 |Hu (off:Nat) (p:Aa) (k:IT)
 |Ft (size bytes:Nat) (s x:Aa) (k:Aa->IT)
 |FY (size bytes:Nat) (s x:Aa) (k:Aa->IT)
 |mem (o:uD) (args:List Aa) (k:Aa->IT)
 |uE (f:FuncId) (args:List Aa) (k:Aa->IT)
 deriving Inhabited
def Aa.Lp:Aa->Bool
 | .bool _| .int _ _| .str _=>true
 |_=>false
def Bb(h:Ae)(n:Option Nat):Aa->Option Aa
 | .CA cs=>EO cs 0 n
 | .ptr (some (id,off))=>match h[id]? with
  |some (.cells cs)=>EO cs off n
  |_=>none
 |_=>none
def Cv(h:Ae)(n:Nat)(p v:Aa):Option Ae:=
 match p with
 | .ptr (some (id,off))=>match h[id]? with
  |some (.cells cs)=>if v.cells.length=n/\off+n<=cs.length then some (h.set id (.cells (cs.take off++v.cells++cs.drop (off+n)))) else none
  |_=>none
 |_=>none
def X0(h:Ae)(n:Nat)(v:Aa):Option (Ae×Aa):=
 if v.cells.length=n then some (h++[.cells v.cells],.ptr (some (h.length,0))) else none
def Ud(s:As):List (Aa×Aa)->Option (Option Aa)
 |[]=>some none
 |(.str t,v)::es=>if s=t then some (some v) else Ud s es
 |_=>none
def Ns(s:As)(v:Aa):List (Aa×Aa)->Option (List (Aa×Aa))
 |[]=>some [(.str s,v)]
 |(.str t,v')::es=>if s=t then some ((.str s,v)::es) else(Ns s v es).map λes=>(.str t,v')::es
 |_=>none
def Sq(h:Ae)(m k v:Aa):Option Ae:=
 match m,k with
 | .map (some id),.str s=>match h[id]? with
  |some (.map es)=>(Ns s v es).map λes=>h.set id (.map es)
  |_=>none
 |_,_=>none
def Ue(h:Ae)(m k:Aa):Option (Option Aa):=
 match m,k with
 | .map none,.str _=>some none
 | .map (some id),.str s=>match h[id]? with
  |some (.map es)=>Ud s es
  |_=>none
 |_,_=>none
def Sr(h:Ae)(zero:Aa)(ok:Bool)(m k:Aa):Option Aa:=
 (Ue h m k).map λr=>match r with
  |some v=>if ok then .tuple [v,.bool true] else v
  |none=>if ok then .tuple [zero,.bool false] else zero
def Uf(h:Ae)(size bytes:Nat)(zero:List Aa):Aa->Aa->Option (Ae×Aa)
 | .int .i64 n,.int .i64 c=>if 0<=n/\n<=c/\c.toNat*bytes<=AS/\zero.length=size then
  some (h++[.cells (List.replicate c.toNat zero).flatten],.Cm h.length 0 n.toNat size) else none
 |_,_=>none
def PE(size:Nat):Aa->Bool
 | .slnil=>true
 | .sl z []=>z==size
 |_=>false
def Jt(h:Ae)(size bytes:Nat)(s:Aa):Aa->Option (Ae×Aa)
 | .sl z Au=>if PE size s then(match Au with
   |[]=>some (h,s)
   |Au=>if z=size/\Au.length*bytes<=AS then some (h++[.cells Au.flatten],.Cm h.length 0 Au.length size) else none)
  else none
 | .slnil=>if PE size s then some (h,s) else none
 |_=>none
def IL(h:Ae):Aa->Option (Ae×Aa)
 | .str s=>if s.length<=AS then some (h++[.cells (s.map λb=> .int .u8 b.toNat)],.Cm h.length 0 s.length 1) else none
 |_=>none
def Ck(cs:List Aa)(z:Nat):Nat->Nat->List (List Aa)
 |_,0=>[]
 |off,n+1=>(cs.drop off).take z::Ck cs z (off+z) n
def Kn(h:Ae):Aa->Option (Ae×Aa)
 | .Cm id off n z=>match h[id]? with
  |some (.cells cs)=>if off+n*z<=cs.length then some (h.set id .CG,.sl z (Ck cs z off n)) else none
  |_=>none
 |v=>some (h,v)
def KV(h:Ae)(off:Nat)(p:Aa):Option Ae:=
 match p with
 | .ptr none=>some h
 | .ptr (some (id,o))=>match h[id]? with
  |some (.cells cs)=>match cs[o+off]? with
   |some v=>(Kn h v).bind λ(h',v')=>match h'[id]? with
    |some (.cells Gf)=>some (h'.set id (.cells (Gf.set (o+off) v')))
    |_=>none
   |none=>none
  |_=>none
 |_=>none
def Gi(h:Ae)(size:Nat):Aa->Option (List (List Aa))
 | .slnil=>some []
 | .sl z Au=>if z=size then some Au else none
 | .str s=>if size=1 then some (BZ s) else none
 | .Cm id off n z=>if z=size then match h[id]? with
   |some (.cells cs)=>if off+n*z<=cs.length then some (Ck cs z off n) else none
   |_=>none
  else none
 |_=>none
def Fo(h:Ae)(size bytes:Nat)(s x:Aa):Option (Ae×Aa):=
 match Gi h size x with
 |none=>none
 |some []=>match s with
  | .slnil=>some (h,s)
  | .Cm _ _ _ z=>if z=size then some (h,s) else none
  |_=>none
 |some Au=>match s with
  | .slnil=>if Au.length*bytes<=AS then some (h++[.cells Au.flatten],.Cm h.length 0 Au.length size) else none
  | .Cm id off n z=>match h[id]? with
   |some (.cells cs)=>if z=size then
     (if off+(n+Au.length)*z<=cs.length then some (h.set id (.cells (cs.take (off+n*z)++Au.flatten++cs.drop (off+(n+Au.length)*z))),.Cm id off (n+Au.length) z)
     else if off=0/\n*z<=cs.length/\(n+Au.length)*bytes<=AS then some (h.set id .CG++[.cells (cs.take (n*z)++Au.flatten)],.Cm h.length 0 (n+Au.length) z) else none)
    else none
   |_=>none
  |_=>none
def O7(h:Ae)(size bytes:Nat)(s x:Aa):Option Aa:=(Gi h size x).bind (DN size bytes s)
def kG(h:Ae)(size:Nat)(d x:Aa):Option (Ae×Aa):=
 match Gi h size x with
 |none=>none
 |some Au=>match d with
  | .slnil=>if Au.length=0 then some (h,.int .i64 0) else none
  | .Cm id off n z=>match h[id]? with
   |some (.cells cs)=>if z=size/\Au.length<=n/\off+n*z<=cs.length then some (h.set id (.cells (cs.take off++Au.flatten++cs.drop (off+Au.length*z))),.int .i64 Au.length) else none
   |_=>none
  |_=>none
def Ug(h:Ae)(size:Nat)(zero:List Aa):Aa->Option (Ae×Aa)
 | .slnil=>some (h,.bool true)
 | .Cm id off n z=>match h[id]? with
  |some (.cells cs)=>if z=size/\zero.length=size/\off+n*z<=cs.length then some (h.set id (.cells (cs.take off++(List.replicate n zero).flatten++cs.drop (off+n*z))),.bool true) else none
  |_=>none
 |_=>none
def ZO(h:Ae)(size:Nat)(lo hi:Bool)(s:Aa)(as:List Aa):Option (Ae×Aa):=
 match s with
 | .Cm id off n z=>match h[id]? with
  |some (.cells cs)=>if z=size/\hi=true/\off<=cs.length then(DH lo hi ((cs.length-off)/z) as).bind λ(l,r)=>if l<(cs.length-off)/z then some (h,.Cm id (off+l*z) (r-l) z) else none else none
  |_=>none
 |_=>none
def Uh(size:Nat):List Aa->Bool
 |[s,.int _ l,.int _ r,.int _ m]=>match s with
  | .Cm _ _ n z=>z=size&&decide (0<=l)&&decide (l<=r)&&decide (r<=m)&&decide (m<=n)
  | .sl z Au=>z=size&&decide (0<=l)&&decide (l<=r)&&decide (r<=m)&&decide (m<=Au.length)
  |_=>false
 |_=>false
def Ko(k:Int):List (Aa×Aa)->Nat->Option (Option (Nat×Aa))
 |[],_=>some none
 |(.int .i64 t,v)::es,i=>if k=t then some (some (i,v)) else Ko k es (i+1)
 |_,_=>none
def eE(zero:Aa)(ok:Bool):Option (Nat×Aa)->Aa
 |some (_,v)=>if ok then .tuple [v,.bool true] else v
 |none=>if ok then .tuple [zero,.bool false] else zero
def kH(h:Ae)(zero:Aa)(ok:Bool)(m k:Aa):Option (Ae×Aa):=
 match m,k with
 | .map none,.int .i64 _=>some (h,eE zero ok none)
 | .map (some id),.int .i64 n=>match h[id]? with
  |some (.map es)=>(Ko n es 0).map λr=>(h,eE zero ok r)
  |_=>none
 |_,_=>none
def TK(h:Ae)(zero m k:Aa):Option (Ae×Aa):=
 match m,k with
 | .map (some id),.int .i64 n=>match h[id]? with
  |some (.map es)=>(Ko n es 0).map λr=>match r with
   |some (i,v)=>(h,.tuple [v,.int .i64 i])
   |none=>(h.set id (.map (es++[(k,zero)])),.tuple [zero,.int .i64 es.length])
  |_=>none
 |_,_=>none
def TL(h:Ae)(m i v:Aa):Option (Ae×Aa):=
 match m,i with
 | .map (some id),.int .i64 n=>match h[id]? with
  |some (.map es)=>if 0<=n then match es[n.toNat]? with
   |some (k,_)=>some (h.set id (.map (es.set n.toNat (k,v))),.bool true)
   |none=>none
   else none
  |_=>none
 |_,_=>none
def Ow(h:Ae):List Aa->Option (Ae×Aa)
 |[.slnil,.int .i64 i,.sl 1 [[.int .i64 x]]]=>if i=0 then some (h++[.cells [.int .i64 x]],.Cm h.length 0 1 1) else none
 |[.Cm id 0 n 1,.int .i64 i,.sl 1 [[.int .i64 x]]]=>match h[id]? with
  |some (.cells cs)=>if 0<=i/\i.toNat<=n/\n<=cs.length/\(n+1)*8<=AS then some (h.set id .CG++[.cells (cs.take i.toNat++[.int .i64 x]++(cs.take n).drop i.toNat)],.Cm h.length 0 (n+1) 1) else none
  |_=>none
 |_=>none
def Ep(o:uD)(h:Ae)(args:List Aa):Option (Ae×Aa):=
 match o with
 | .copy size=>match args with
  |[d,x]=>kG h size d x
  |_=>none
 | .clear size zero=>match args with
  |[s]=>Ug h size zero s
  |_=>none
 | .pZ size lo hi=>match args with
  |s::as=>ZO h size lo hi s as
  |_=>none
 | .eD size=>if Uh size args then some (h,.bool true) else none
 | .aDh t=>match args with
  |[v]=>some (h,.iface t v)
  |_=>none
 | .dn zero ok=>match args with
  |[m,k]=>kH h zero ok m k
  |_=>none
 | .ME zero=>match args with
  |[m,k]=>TK h zero m k
  |_=>none
 | .LM=>match args with
  |[m,i,v]=>TL h m i v
  |_=>none
 | .p8=>Ow h args
 | .PD g=>g h args
def D7(f:FuncId):FuncId:=if f<=99999 then f else f%100000
def Dt:Aa->List Aa->Option (FuncId×List Aa)
 | .func (.func f) first captured,args=>if f<=99999 then some (f,first++args++captured) else none
 |_,_=>none
abbrev Jn:=EL×List Aa×Ae
def IT.step(fn:FuncId->List Aa->IT)(rec:IT->Ae->Option Jn):IT->Ae->Option Jn
 | .ret x vs,h=>some (x,vs,h)
 | .fail,_=>none
 | .op o args k,h=>match Aw o args with
  |some v=>IT.step fn rec (k v) h
  |none=>none
 | .cells n v k,h=>if v.cells.length=n then IT.step fn rec (k v.cells) h else none
 | .AH c t e,h=>match c with
  | .bool true=>IT.step fn rec t h
  | .bool false=>IT.step fn rec e h
  |_=>none
 | .load n p k,h=>match Bb h n p with
  |some v=>IT.step fn rec (k v) h
  |none=>none
 | .store n p v k,h=>match Cv h n p v with
  |some h'=>IT.step fn rec k h'
  |none=>none
 | .alloc n v k,h=>match X0 h n v with
  |some (h',p)=>IT.step fn rec (k p) h'
  |none=>none
 | .call f args k,h=>match rec (fn f args) h with
  |some (.ret,[r],h')=>IT.step fn rec (k r) h'
  |_=>none
 | .FH g args k,h=>match Dt g args with
  |some (f,args)=>match rec (fn f args) h with
   |some (.ret,[r],h')=>IT.step fn rec (k r) h'
   |_=>none
  |none=>none
 | .Be f args k,h=>if args.all Aa.Lp then match rec (fn f args) [] with
   |some (.ret,[r],_)=>if r.Lp then IT.step fn rec (k r) h else none
   |_=>none
  else none
 | .loop key init body k,h=>match IT.step fn rec (body init) h with
  |some (.normal,vs,h')=>rec (.loop key vs body k) h'
  |some (x,vs,h')=>IT.step fn rec (k x vs) h'
  |none=>none
 | .Dg _ t k,h=>match IT.step fn rec t h with
  |some (x,vs,h')=>IT.step fn rec (k x vs) h'
  |none=>none
 | .same a b k,h=>if Aa.beq a b then IT.step fn rec k h else none
 | .OY k,h=>IT.step fn rec (k (.map (some h.length))) (h++[.map []])
 | .JY m key v k,h=>match Sq h m key v with
  |some h'=>IT.step fn rec k h'
  |none=>none
 | .L5 zero ok m key k,h=>match Sr h zero ok m key with
  |some v=>IT.step fn rec (k v) h
  |none=>none
 | .make size bytes zero len cap k,h=>match Uf h size bytes zero len cap with
  |some (h',v)=>IT.step fn rec (k v) h'
  |none=>none
 | .Ht size bytes s x k,h=>match Jt h size bytes s x with
  |some (h',v)=>IT.step fn rec (k v) h'
  |none=>none
 | .E9 s k,h=>match IL h s with
  |some (h',v)=>IT.step fn rec (k v) h'
  |none=>none
 | .KU v k,h=>match Kn h v with
  |some (h',v')=>IT.step fn rec (k v') h'
  |none=>none
 | .Hu off p k,h=>match KV h off p with
  |some h'=>IT.step fn rec k h'
  |none=>none
 | .Ft size bytes s x k,h=>match Fo h size bytes s x with
  |some (h',v)=>IT.step fn rec (k v) h'
  |none=>none
 | .FY size bytes s x k,h=>match O7 h size bytes s x with
  |some v=>IT.step fn rec (k v) h
  |none=>none
 | .mem o args k,h=>match Ep o h args with
  |some (h',v)=>IT.step fn rec (k v) h'
  |none=>none
 | .uE f args k,h=>match rec (fn f args) [] with
  |some (.ret,[r],_)=>if r.Lp then IT.step fn rec (k r) h else none
  |_=>none
def IT.run(fn:FuncId->List Aa->IT):Nat->IT->Ae->Option Jn
 |0=>λ_ _=>none
 |n+1=>IT.step fn (IT.run fn n)
end Go.Am
end
section
namespace Go.Am
inductive Sh where
 |val
 |own
 |box (n:Nat) (own:List Nat)
 deriving Inhabited
inductive kI where
 |NI|heap
 deriving DecidableEq,Inhabited
structure FI where
 P:Program
 xy:FuncId->Nat->List (Nat×Sh)
 tg:FuncId->Nat->Option (List (Nat×Sh))
 th:FuncId->Nat->Option (List (Nat×Sh))
 kind:FuncId->Nat->kI
 Ii:FuncId->Bool
 tj:FuncId->Bool
 uF:FuncId->Nat->Bool
 OZ:FuncId->Nat->Bool
 uG:FuncId->Bool
 uH:FuncId->List (Nat×Nat)
 Gj:Nat->Option (List Aa)
 xz:FuncId->Option (List Aa->IT)
 alt:FuncId->FuncId->FuncId
 L2:FuncId->Bool
inductive Er where
 |pure (ws:List (Nat×D6))
 |op (p:We) (args:List Aa) (dst:Option Nat) (own:Bool) (Dm:Option (Nat×Aa))
 |box (n:Nat) (v:Aa) (dst:Nat)
 |KC (fn:Fn) (first captured:List Aa) (froze:List (Nat×List Aa)) (dst:Nat)
 |LN (s off n:Nat) (v:Aa) (own:Bool) (Dm:Option (Nat×Aa)) (ver:Nat) (cells:List Aa) (owned:List Nat)
 |load (n:Option Nat) (p:Aa) (dst:Option Nat)
 |store (n:Nat) (p v:Aa)
 |alloc (n:Nat) (v:Aa) (dst:Option Nat)
 |call (f:FuncId) (args:List Aa) (dst:Option Nat)
 |FH (g:Aa) (args:List Aa) (dst:Option Nat)
 |Be (f:FuncId) (args:List Aa) (dst:Option Nat)
 |OY (dst:Option Nat)
 |JY (m k v:Aa)
 |L5 (zero:Aa) (ok:Bool) (m k:Aa) (dst:Option Nat)
 |make (size bytes:Nat) (zero:List Aa) (len cap:Aa) (dst:Option Nat)
 |Ht (size bytes:Nat) (s x:Aa) (dst:Option Nat) (Dm:Option (Nat×Aa))
 |Ft (size bytes:Nat) (s x:Aa) (dst:Option Nat)
 |FY (size bytes:Nat) (s x:Aa) (dst:Option Nat) (Dm:Option (Nat×Aa))
 |E9 (s:Aa) (dst:Option Nat)
 |S7 (v:Aa) (dst:Option Nat)
 |mem (o:uD) (args:List Aa) (dst:Option Nat)
def BP(P:Program)(t:TypeId):Option Nat:=(P.info? t).map (·.size)
def I5(P:Program)(t:TypeId):Option Nat:=(P.info? t).map (·.bytes)
def EN(P:Program)(t:TypeId):Option (Option Nat):=
 match P.underlying t with
 |some (.struct _)|some (.array _ _)=>(BP P t).map some
 |some _=>some none
 |none=>none
def GN(P:Program)(t:TypeId):Option Aa:=((P.info? t).bind (·.zero)).bind JP
def Ui(rec:TypeId->Option (List FK)):List Field->Nat->Option (List FK)
 |[],_=>some []
 |f::fs,off=>if f.name≠ "_"/\f.offset=off then match rec f.type with
   |some ks=>(Ui rec fs (off+ks.length)).map (ks++·)
   |none=>none
  else none
def NJ(P:Program):Nat->TypeId->Option (List FK)
 |0,_=>none
 |d+1,t=>
  let one (k:FK):Option (List FK):=if BP P t=some 1 then some [k] else none
  match P.underlying t with
  |some .bool=>one .b
  |some (.int _)=>one .i
  |some .string=>one .s
  |some (.struct fs)=>match Ui (NJ P d) fs.toList 0 with
   |some ks=>if BP P t=some ks.length/\P.stoodInHeld t=false then some ks else none
   |none=>none
  |_=>none
def HF(P:Program)(s:TypeId)(f:Nat):Option (Nat×Option Nat):=
 match P.underlying s with
 |some (.struct fs)=>match fs[f]? with
  |some fd=>match BP P fd.type,EN P fd.type with
   |some (_+1),some sh=>some (fd.offset,sh)
   |_,_=>none
  |none=>none
 |_=>none
def DJ(C:FI)(σ:BD):Operand->Option D6
 | .tmp t=>some (σ.at t)
 | .const (.bool b)=>some (.Nq b)
 | .const (.slice none 0 0)=>some (.own .slnil)
 | .const v=>(JP v).map .val
 | .global g=>(C.Gj g).map λcs=> .val (.CA cs)
 | .func f=>some (.val (.func (.func f) [] []))
def Es(C:FI)(σ:BD)(x:Operand):Option Aa:=(DJ C σ x).bind D6.Gu
def Bq(C:FI)(σ:BD):List Operand->Option (List Aa)
 |[]=>some []
 |x::xs=>match Es C σ x,Bq C σ xs with
  |some v,some vs=>some (v::vs)
  |_,_=>none
def uI(ops:List Oper)(d:Nat):Bool:=
 ops.any λo=>match o.op with
  | .call c=>(match c.callee with| .builtin .append=>true|_=>false)&&(match(c.args[0]?:Option Operand) with|some (.tmp t)=>t==d|_=>false)
  |_=>false
def HG:D6->Option D6
 | .val v=>some (.val v)
 | .Nq b=>some (.Nq b)
 | .own v=>some (.val v)
 | .EG s o=>some (.EG s o)
 |_=>none
def Qp(x:Operand)(v:Aa):List (Nat×D6):=
 match x with
 | .tmp s=>[(s,.val v)]
 |_=>[]
def Ju(C:FI)(σ:BD)(x:Operand)(d:Nat)(take:Bool):Option Er:=
 match x,DJ C σ x with
 | .tmp s,some (.box _ _ _)=>some (.pure [(d,.EG s 0)])
 | .const _,some sl=>some (.pure [(d,sl)])
 |x,some (.own v)=>if take then some (.pure (Qp x v++[(d,.own v)])) else(HG (.own v)).map λs=> .pure [(d,s)]
 |_,some s=>(HG s).map λs=> .pure [(d,s)]
 |_,none=>none
def Uj(cs:List Aa):List Nat:=(List.range cs.length).filter λi=>match cs.getD i .nilIface with| .slnil=>true|_=>false
def LO(σ:BD)(ds:List Nat):Bool:=σ.all λs=>match s with| .EG s _=> !ds.contains s|_=>true
def BD.drop(σ:BD)(ds:List Nat):BD:=match ds with|[]=>σ|ds=>σ.map λs=>match s with| .EG s o=>if ds.contains s then .undef else .EG s o|s=>s
def Ss(C:FI)(fid:FuncId)(t:TypeId)(v:Aa)(d:Nat):Option Er:=
 match BP C.P t with
 |none=>none
 |some n=>if n=0 then none else match C.kind fid d with
  | .NI=>some (.box n v d)
  | .heap=>some (.alloc n v (some d))
inductive x_ where
 |NI (s off ver:Nat) (cells:List Aa) (own:List Nat)
 |ptr (p:Aa)
def Fu(C:FI)(σ:BD)(x:Operand):Option x_:=
 match x,DJ C σ x with
 | .tmp s,some (.box ver cs ow)=>some (.NI s 0 ver cs ow)
 |_,some (.EG s o)=>match σ.at s with
  | .box ver cs ow=>some (.NI s o ver cs ow)
  |_=>none
 |_,some s=>s.Gu.map .ptr
 |_,none=>none
def CZ(σ:BD):Operand->Option (Nat×Aa)
 | .tmp s=>match σ.at s with
  | .own v=>some (s,v)
  |_=>none
 |_=>none
def JZ(C:FI)(σ:BD)(x:Operand):Bool:=match DJ C σ x with|some (.own _)=>true|_=>false
def Kp(C:FI)(σ:BD)(t:TypeId)(x:Operand)(d:Nat)(take:Bool):Option Er:=
 match EN C.P t,Fu C σ x with
 |some n,some (.ptr p)=>some (.load n p (some d))
 |some none,some (.NI s o ver cs ow)=>
  if o<cs.length then
   let v:=cs.getD o .nilIface
   if ow.contains o&& !(ow.erase o).contains o&&take then some (.pure [(s,.box (ver+1) cs (ow.erase o)),(d,.own v)])
   else some (.pure [(d,.val v)])
  else none
 |some (some n),some (.NI _ o _ cs _)=>if o+n<=cs.length then some (.pure [(d,.val (.agg ((cs.drop o).take n)))]) else none
 |_,_=>none
def IA(C:FI)(σ:BD)(t:TypeId)(x y:Operand):Option Er:=
 match BP C.P t,EN C.P t,Fu C σ x,Es C σ y with
 |some (n+1),_,some (.ptr p),some v=>some (.store (n+1) p v)
 |some (n+1),some sh,some (.NI s o ver cs ow),some v=>
  if o+(n+1)<=cs.length then
   let own:=sh.isNone&&JZ C σ y
   some (.LN s o (n+1) v own (if own then CZ σ y else none) ver cs ow)
  else none
 |_,_,_,_=>none
def Rw(P:Program)(t:TypeId)(neg:Bool)(u:TypeDesc):Option We:=
 match u with
 | .bool=>some (.beq neg)
 | .struct _=>if P.eqGuardType P.depth t=false then(NJ P 20 t).map (.geq neg) else none
 | .pointer e=>if(BP P e).getD 0=0 then none else some (.Nr neg)
 | .slice _=>some (.GL neg .sl)
 | .func _ _ _=>some (.GL neg .fn)
 | .map _ _=>some (.GL neg .mp)
 |_=>none
def Ox(P:Program)(op:BinOp)(t:TypeId):Option We:=
 match P.underlying t with
 |some (.int _)=>some (.int op)
 |some .string=>some (.str op)
 |some u=>match op with
  | .eql=>Rw P t false u
  | .neq=>Rw P t true u
  |_=>none
 |none=>none
def Rx(p:We)(dst:Option Nat):Option (List Aa)->Option Er
 |some args=>some (.op p args dst false none)
 |none=>none
def I6(P:Program)(t:TypeId):List (Nat×Operand)->Option (List (Nat×Nat))
 |[]=>some []
 |(i,_)::rest=>match P.underlying t with
  |some (.struct fs)=>match fs[i]? with
   |some f=>match BP P f.type,I6 P t rest with
    |some n,some r=>some ((f.offset,n)::r)
    |_,_=>none
   |none=>none
  |some (.array len e)=>if i<len then match BP P e,I6 P t rest with
    |some n,some r=>some ((i*n,n)::r)
    |_,_=>none
   else none
  |_=>none
def LP(P:Program)(t:TypeId):Bool:=
 match P.info? t with
 |some i=>match i.zero with
  |some z=>z.cells.size==i.size
  |none=>false
 |none=>false
def TM(P:Program)(t:TypeId):Bool:=
 match P.underlying t with
 |some (.struct fs)=>fs.toList.all λf=>(BP P f.type).isSome
 |some (.array _ e)=>(BP P e).isSome
 |_=>false
def S8(o:uD)(dst:Option Nat):Option (List Aa)->Option Er
 |some args=>some (.mem o args dst)
 |none=>none
def PF(C:FI)(fid:FuncId)(σ:BD)(c:Call)(dst:Option Nat):Option Er:=
 match c.callee with
 | .builtin .len=>match c.argTypes[0]? with
  |some t=>match C.P.underlying t with
   |some .string=>Rx (.len true) dst (Bq C σ c.args.toList)
   |some (.slice _)=>Rx (.len false) dst (Bq C σ c.args.toList)
   |_=>none
  |none=>none
 | .builtin .append=>match c.argTypes[0]?,c.argTypes[1]?,c.args.toList with
  |some t,some t',[s,x]=>match C.P.underlying t,C.P.underlying t' with
   |some (.slice e),some (.slice _)|some (.slice e),some .string=>match BP C.P e,I5 C.P e with
    |some (n+1),some (b+1)=>if LP C.P e then match Bq C σ [s,x] with
      |some [v,u]=>if JZ C σ s then
        (if(dst.map (C.uF fid)).getD false then some (.Ht (n+1) (b+1) v u dst (CZ σ s))
        else if(dst.map (C.OZ fid)).getD false then some (.FY (n+1) (b+1) v u dst (CZ σ s))
        else some (.op (.append (n+1) (b+1)) [v,u] dst true (CZ σ s)))
       else if(dst.map (C.uF fid)).getD false then some (.Ft (n+1) (b+1) v u dst) else none
      |_=>none
     else none
    |_,_=>none
   |_,_=>none
  |_,_,_=>none
 | .builtin .copy=>match c.argTypes[0]?,c.argTypes[1]?,c.args.toList with
  |some t,some t',[s,x]=>match C.P.underlying t,C.P.underlying t' with
   |some (.slice e),some (.slice _)|some (.slice e),some .string=>match BP C.P e with
    |some (n+1)=>S8 (.copy (n+1)) dst (Bq C σ [s,x])
    |_=>none
   |_,_=>none
  |_,_,_=>none
 | .builtin .clear=>match c.argTypes[0]?,c.args.toList with
  |some t,[s]=>match C.P.underlying t with
   |some (.slice e)=>match BP C.P e,GN C.P e with
    |some (n+1),some z=>S8 (.clear (n+1) z.cells) dst (Bq C σ [s])
    |_,_=>none
   |_=>none
  |_,_=>none
 | .builtin .max=>if c.args.size=2 then Rx (.Kl true) dst (Bq C σ c.args.toList) else none
 | .builtin .min=>if c.args.size=2 then Rx (.Kl false) dst (Bq C σ c.args.toList) else none
 | .value (.func f)=>if C.L2 f then(match c.args.toList with
  |[s,i,v]=>if JZ C σ v then S8 .p8 dst (Bq C σ [s,i,v]) else none
  |_=>none) else if D7 (C.alt fid f)=f then(Bq C σ c.args.toList).map λargs=>if C.tj (C.alt fid f) then .Be (C.alt fid f) args dst else .call (C.alt fid f) args dst else none
 | .value g=>match Es C σ g,Bq C σ c.args.toList with
  |some g,some args=>some (.FH g args dst)
  |_,_=>none
 |_=>none
def Uk(C:FI)(src dst:TypeId):Option (Option We):=
 match C.P.underlying src,C.P.underlying dst with
 |some (.int _),some (.int k)=>some (some (.conv k))
 |some (.int _),some .string=>some (some .i2s)
 |some .string,some .string=>some none
 |some (.slice e),some .string=>match C.P.underlying e with
  |some (.int .u8)=>some (some .S7)
  |_=>none
 |some .string,some (.slice e)=>match C.P.underlying e,BP C.P e,I5 C.P e with
  |some (.int .u8),some 1,some 1=>some (some .s2b)
  |_,_,_=>none
 |_,_=>none
def Gv(C:FI)(σ:BD):List Operand->Option (List Aa×List (Nat×List Aa))
 |[]=>some ([],[])
 |x::xs=>match Gv C σ xs with
  |none=>none
  |some (vs,fz)=>match x,DJ C σ x with
   | .tmp s,some (.box _ cs _)=>if(fz.map (·.1)).contains s then none else some (.CA cs::vs,(s,cs)::fz)
   |_,some sl=>match sl.Gu with
    |some v=>some (v::vs,fz)
    |none=>none
   |_,none=>none
def Fv(C:FI)(fid:FuncId)(ops:List Oper)(σ:BD)(o:Oper):Option Er:=
 match o.op with
 | .move x=>match o.dst with
  |some d=>Ju C σ x d (uI ops d)
  |none=>none
 | .assign x=>match o.dst with
  |some d=>Ju C σ x d true
  |none=>none
 | .pick c a b=>match DJ C σ c,o.dst with
  |some (.Nq true),some d=>Ju C σ a d false
  |some (.Nq false),some d=>Ju C σ b d false
  |_,dst=>Rx .pick dst (Bq C σ [c,a,b])
 | .alloc t=>match o.dst,GN C.P t with
  |some d,some z=>match C.kind fid d with
   | .NI=>if BP C.P t=some z.cells.length/\z.cells≠[] then some (.pure [(d,.box 0 z.cells (Uj z.cells))]) else none
   |_=>Ss C fid t z d
  |_,_=>none
 | .box t x=>match o.dst,Es C σ x with
  |some d,some v=>Ss C fid t v d
  |_,_=>none
 | .build t parts=>match GN C.P t,I6 C.P t parts.toList with
  |some z,some ps=>if TM C.P t then Rx (.Br z.cells ps) o.dst (Bq C σ (parts.toList.map (·.2))) else none
  |_,_=>none
 | .buildSlice t len parts=>match C.P.underlying t with
  |some (.slice e)=>match BP C.P e with
   |some (n+1)=>if parts.toList.map (·.1)=List.range len/\LP C.P e=true then(Bq C σ (parts.toList.map (·.2))).map λargs=> .op (.By (n+1)) args o.dst true none else none
   |_=>none
  |_=>none
 | .load t x=>match o.dst with
  |some d=>Kp C σ t x d (uI ops d)
  |none=>none
 | .store t x y=>match o.dst with
  |none=>IA C σ t x y
  |some _=>none
 | .nilCheck x=>match x,DJ C σ x,o.dst with
  | .tmp s,some (.box _ _ _),some d=>some (.pure [(d,.EG s 0)])
  |_,some (.EG s k),some d=>some (.pure [(d,.EG s k)])
  |x,_,dst=>Rx .KT dst (Bq C σ [x])
 | .binOp op t x y _=>match Ox C.P op t with
  |some p=>Rx p o.dst (Bq C σ [x,y])
  |none=>none
 | .unOp op _ x=>Rx (.un op) o.dst (Bq C σ [x])
 | .convert src dst x=>match Uk C src dst with
  |some (some .S7)=>(Es C σ x).map λv=> .S7 v o.dst
  |some (some .s2b)=>if(o.dst.map (C.uF fid)).getD false then(Es C σ x).map λv=> .E9 v o.dst else Rx .s2b o.dst (Bq C σ [x])
  |some (some p)=>Rx p o.dst (Bq C σ [x])
  |_=>none
 | .makeFunc fn first captured=>match o.dst,Bq C σ first.toList,Gv C σ captured.toList with
  |some d,some a,some (b,fz)=>some (.KC fn a b fz d)
  |_,_,_=>none
 | .makeMap _ none=>some (.OY o.dst)
 | .makeSlice t l c=>match C.P.underlying t with
  |some (.slice e)=>match BP C.P e,I5 C.P e,GN C.P e,Es C σ l,Es C σ c with
   |some (n+1),some (b+1),some z,some l,some c=>some (.make (n+1) (b+1) z.cells l c o.dst)
   |_,_,_,_,_=>none
  |_=>none
 | .insert t m k v| .mapUpdate t m k v=>match C.P.underlying t with
  |some (.map kt _)=>match o.dst,C.P.underlying kt,Bq C σ [m,k,v] with
   |none,some .string,some [m,k,v]=>some (.JY m k v)
   |_,_,_=>none
  |_=>none
 | .lookup t m k ok=>match C.P.underlying t with
  |some (.map kt e)=>match C.P.underlying kt,GN C.P e,Bq C σ [m,k] with
   |some .string,some z,some [m,k]=>some (.L5 z ok m k o.dst)
   |some (.int .i64),some z,some [m,k]=>some (.mem (.dn z ok) [m,k] o.dst)
   |_,_,_=>none
  |_=>none
 | .slice t x (some lo) (some hi) (some mx)=>match C.P.underlying t with
  |some (.slice e)=>match BP C.P e with
   |some (n+1)=>S8 (.eD (n+1)) o.dst (Bq C σ [x,lo,hi,mx])
   |_=>none
  |_=>none
 | .makeInterface t x=>match C.P.underlying t with
  |some (.interface _)=>none
  |some _=>S8 (.aDh t) o.dst (Bq C σ [x])
  |none=>none
 | .mapEntry t m k=>match C.P.underlying t with
  |some (.map kt e)=>match C.P.underlying kt,GN C.P e with
   |some (.int .i64),some z=>S8 (.ME z) o.dst (Bq C σ [m,k])
   |_,_=>none
  |_=>none
 | .entryStore _ m s v=>match o.dst with
  |none=>S8 .LM none (Bq C σ [m,s,v])
  |some _=>none
 | .slice t x lo hi none=>match C.P.underlying t with
  |some .string=>Rx (.Hs 0 true lo.isSome hi.isSome) o.dst (Bq C σ (x::(lo.toList++hi.toList)))
  |some (.slice e)=>match BP C.P e with
   |some (n+1)=>if(o.dst.map (C.uF fid)).getD false then S8 (.pZ (n+1) lo.isSome hi.isSome) o.dst (Bq C σ (x::(lo.toList++hi.toList)))
    else Rx (.Hs (n+1) false lo.isSome hi.isSome) o.dst (Bq C σ (x::(lo.toList++hi.toList)))
   |_=>none
  |_=>none
 | .fieldAddr t x f=>match HF C.P t f,o.dst with
  |some (off,_),some d=>match x,DJ C σ x with
   | .tmp s,some (.box _ _ _)=>some (.pure [(d,.EG s off)])
   |_,some (.EG s k)=>some (.pure [(d,.EG s (k+off))])
   |x,_=>Rx (.D8 off) (some d) (Bq C σ [x])
  |_,_=>none
 | .field t x f=>match HF C.P t f with
  |some (off,sh)=>Rx (.part off sh) o.dst (Bq C σ [x])
  |none=>none
 | .indexAddr t x i=>match C.P.underlying t with
  |some (.slice e)=>match BP C.P e with
   |some (n+1)=>Rx (.Fm (n+1)) o.dst (Bq C σ [x,i])
   |_=>none
  |some (.array len e)=>match BP C.P e with
   |some (n+1)=>if len<=1 then none else Rx (.Ub len (n+1)) o.dst (Bq C σ [x,i])
   |_=>none
  |_=>none
 | .index t x i=>match C.P.underlying t with
  |some .string=>Rx .Rv o.dst (Bq C σ [x,i])
  |some (.array len e)=>match BP C.P e,EN C.P e with
   |some (n+1),some sh=>Rx (.xu len (n+1) sh) o.dst (Bq C σ [x,i])
   |_,_=>none
  |_=>none
 | .extract x i=>Rx (.ext i) o.dst (Bq C σ [x])
 | .call c=>PF C fid σ c o.dst
 |_=>none
def BD.Ec(σ:BD):List (Nat×D6)->BD
 |[]=>σ
 |(s,x)::ws=>BD.Ec (σ.set s x) ws
def BD.put(σ:BD)(dst:Option Nat)(x:D6):BD:=
 match dst with
 |some d=>σ.set d x
 |none=>σ
def BD.Dm(σ:BD):Option (Nat×Aa)->BD
 |some (s,v)=>σ.set s (.val v)
 |none=>σ
def Ul(n:Nat)(cs:List Aa):List Aa:=(List.range n).map λi=>cs.getD i .nilIface
def Um(cs:List Aa)(off n:Nat)(vs:List Aa):List Aa:=cs.take off++vs++cs.drop (off+n)
def Qq(owned:List Nat)(off n:Nat)(own:Bool):List Nat:=
 let rest:=owned.filter λo=> !(off<=o&&o<off+n)
 if own then off::rest else rest
def Er.LQ(C:FI)(σ:BD)(K:BD->IT):Er->IT
 | .pure ws=>K (σ.Ec ws)
 | .op p args dst own dem=> .op p args λv=>K ((σ.Dm dem).put dst (if own then .own v else .val v))
 | .box n v d=> .cells n v λcs=>K (σ.set d (.box 0 (Ul n cs) []))
 | .KC fn a b fz d=>K ((σ.Ec (fz.map λ(s,cs)=>(s,.val (.CA cs)))).set d (.val (.func fn a b)))
 | .LN s off n v own dem ver cells owned=> .cells n v λvs=>K ((σ.Dm dem).set s (.box (ver+1) (Um cells off n (Ul n vs)) (Qq owned off n own)))
 | .load n p dst=> .load n p λv=>K (σ.put dst (.val v))
 | .store n p v=> .store n p v (K σ)
 | .alloc n v dst=> .alloc n v λp=>K (σ.put dst (.val p))
 | .call f args dst=> .call f args λr=>K (σ.put dst (if C.Ii f then .own r else .val r))
 | .FH g args dst=> .FH g args λr=>K (σ.put dst (.val r))
 | .Be f args dst=> .Be f args λr=>K (σ.put dst (.val r))
 | .OY dst=> .OY λm=>K (σ.put dst (.val m))
 | .JY m k v=> .JY m k v (K σ)
 | .L5 z ok m k dst=> .L5 z ok m k λv=>K (σ.put dst (.val v))
 | .make z b zero l c dst=> .make z b zero l c λv=>K (σ.put dst (.val v))
 | .Ht z b s x dst dem=> .Ht z b s x λv=>K ((σ.Dm dem).put dst (.val v))
 | .Ft z b s x dst=> .Ft z b s x λv=>K (σ.put dst (.val v))
 | .FY z b s x dst dem=> .FY z b s x λv=>K ((σ.Dm dem).put dst (.own v))
 | .E9 s dst=> .E9 s λv=>K (σ.put dst (.val v))
 | .S7 v dst=> .KU v λv=> .op .S7 [v] λu=>K (σ.put dst (.val u))
 | .mem o args dst=> .mem o args λv=>K (σ.put dst (if o.aDi then .undef else .val v))
def Er.news:Er->List Nat
 | .pure ws=>ws.filterMap λ(s,x)=>match x with| .box 0 _ _=>some s|_=>none
 | .box _ _ d=>[d]
 | .KC _ _ _ fz _=>fz.map (·.1)
 |_=>[]
inductive aDk where
 |L6 (run:Bool)
 |ask (eF:Nat) (v:Aa) (want:Bool)
 |ya
def HT(ops:List Oper)(σ:BD)(o:Oper):aDk:=
 match o.guard with
 |none=> .L6 true
 |some (j,want)=>match(ops[j]?).bind (·.dst) with
  |some s=>match σ.at s with
   | .Nq b=> .L6 (b==want)
   | .val v=> .ask s v want
   | .skip=> .L6 false
   |_=> .ya
  |none=> .ya
def uJ(C:FI)(fid:FuncId)(ops:List Oper)(σ:BD)(o:Oper)(K:BD->IT):IT:=
 match Fv C fid ops σ o with
 |some r=>r.LQ C (σ.drop r.news) K
 |none=> .fail
def Ry(C:FI)(fid:FuncId)(ops:List Oper)(σ:BD)(o:Oper)(K:BD->IT):IT:=
 match HT ops σ o with
 | .L6 true=>uJ C fid ops σ o K
 | .L6 false=>K (σ.put o.dst .skip)
 | .ask s v want=>
  let t:=if want then uJ C fid ops (σ.set s (.Nq true)) o K else K (BD.put (σ.set s (.Nq true)) o.dst .skip)
  let e:=if want then K (BD.put (σ.set s (.Nq false)) o.dst .skip) else uJ C fid ops (σ.set s (.Nq false)) o K
  .AH v t e
 | .ya=> .fail
def kJ(C:FI)(fid:FuncId)(ops:List Oper):List Oper->BD->(BD->IT)->IT
 |[],σ,K=>K σ
 |o::rest,σ,K=>Ry C fid ops σ o λσ=>kJ C fid ops rest σ K
end Go.Am
end
section
namespace Go.Am
def Oper.S9(o:Oper):List Nat:=o.after.toList.filterMap λe=>if Region.binds .any e then some e.on else none
def bit(i:Nat):Nat:=2^i
def J0(Dw:List Nat):List Oper->List Nat
 |[]=>Dw
 |o::rest=>J0 (Dw++[(Oper.S9 o).foldl (λm e=>m|||bit e|||Dw.getD e 0) 0]) rest
def Un(ops:List Oper):List Nat:=J0 [] ops
def DX(an:List Nat)(i j:Nat):Bool:=(an.getD j 0).testBit i
def tk(o:Oper):Bool:=
 match o.op with
 | .call c=>(match c.callee with| .builtin .copy| .builtin .clear=>true| .builtin _=>false|_=>true)
 | .store _ _ _| .insert _ _ _ _| .mapUpdate _ _ _ _| .makeMap _ _| .makeSlice _ _ _| .mapEntry _ _ _| .entryStore _ _ _ _=>true
 |_=>false
def Uo(all:List Oper)(Dw:List Nat):List Oper->List Nat
 |[]=>Dw
 |o::rest=>Uo all (Dw++[(Oper.S9 o).foldl (λm e=>Nat.max m (Dw.getD e 0+(match all[e]? with|some x=>if tk x then 1 else 0|none=>0))) 0]) rest
def dr(ops:List Oper):List Nat:=
 let st:=Uo ops [] ops
 let idx:=List.range ops.length
 let Qk:=λi=>match ops[i]? with|some o=>tk o|none=>false
 (List.range (ops.length+1)).flatMap λs=>(idx.filter λi=>st.getD i 0==s&& !Qk i)++(idx.filter λi=>st.getD i 0==s&&Qk i)
structure FP where
 rs:List Nat
 wf:List Nat
 hl:Bool
 Qk:Bool
 news:List Nat
 lr:List Nat
 Rz:Bool
 deriving Inhabited
def Jv(xs:List Operand):List Nat:=xs.filterMap λ| .tmp t=>some t|_=>none
def MF(C:FI)(σ:BD)(x:Operand):Option Nat:=
 match Fu C σ x with
 |some (.NI s _ _ _ _)=>some s
 |_=>none
def Hb(C:FI)(σ:BD)(o:Oper):List Nat:=
 match o.op with
 | .load _ x=>(MF C σ x).toList
 | .store _ x _=>(MF C σ x).toList
 | .makeFunc _ _ captured=>Jv captured.toList
 |_=>[]
def Er.wf:Er->List Nat
 | .pure ws=>ws.map (·.1)
 | .op _ _ dst _ dem=>dst.toList++(dem.map (·.1)).toList
 | .box _ _ d=>[d]
 | .KC _ _ _ fz d=>d::fz.map (·.1)
 | .LN s _ _ _ _ dem _ _ _=>s::(dem.map (·.1)).toList
 | .load _ _ dst| .alloc _ _ dst| .call _ _ dst| .FH _ _ dst| .Be _ _ dst| .OY dst| .L5 _ _ _ _ dst| .make _ _ _ _ _ dst| .E9 _ dst| .S7 _ dst| .Ft _ _ _ _ dst| .mem _ _ dst=>dst.toList
 | .Ht _ _ _ _ dst dem| .FY _ _ _ _ dst dem=>dst.toList++(dem.map (·.1)).toList
 | .store _ _ _| .JY _ _ _=>[]
def Er.hl:Er->Bool
 | .load _ _ _| .L5 _ _ _ _ _=>true
 |_=>false
def Er.Qk:Er->Bool
 | .store _ _ _| .alloc _ _ _| .call _ _ _| .FH _ _ _| .OY _| .JY _ _ _| .make _ _ _ _ _ _| .Ht _ _ _ _ _ _| .E9 _ _| .S7 _ _| .Ft _ _ _ _ _| .FY _ _ _ _ _ _| .mem _ _ _=>true
 |_=>false
def EY(ops:List Oper)(o:Oper):List Nat:=
 match o.guard with
 |none=>[]
 |some (j,_)=>((ops[j]?).bind (·.dst)).toList
def TN(xs:List D6):List Nat:=xs.filterMap λ| .EG t _=>some t|_=>none
def Er.kK:Er->List Nat
 | .pure ws=>TN (ws.map (·.2))
 |_=>[]
def Er.Rz(σ:BD)(r:Er):Bool:=
 LO σ r.news&&match r with
  | .load _ _ (some d)=>decide (d<σ.length)
  | .load _ _ none| .L5 _ _ _ _ _| .KC _ _ _ (_::_) _=>false
  |_=>true
def Ta(C:FI)(ops:List Oper)(σ:BD)(o:Oper)(r:Option Er):FP:=
 match r with
 |none=>{rs:=EY ops o,wf:=o.dst.toList,hl:=false,Qk:=false,news:=[],lr:=TN (o.dst.toList.map σ.at),Rz:=true}
 |some r=>{rs:=EY ops o++Jv o.op.operands.toList++Hb C σ o,wf:=r.wf++o.dst.toList,hl:=r.hl,Qk:=r.Qk,news:=r.news,lr:=TN ((r.wf++o.dst.toList).map σ.at)++r.kK,Rz:=r.Rz σ}
def Su(a b:List Nat):Bool:=a.any λx=>b.contains x
def FP.apart(x y:FP):Bool:= !Su x.wf (y.rs++y.wf)&& !Su y.wf x.rs&& !Su x.lr y.news&& !Su y.lr x.news
def PG(x y:FP):Bool:=x.Rz&&y.Rz&&x.apart y&& !(x.Qk&&y.Qk)&& !(x.Qk&&y.hl)
def Uq(n:Nat)(an:List Nat)(ann:List (Nat×FP)):Bool:=
 go ann&&(List.range n).all (λi=>(ann.map (·.1)).contains i)
where
 go:List (Nat×FP)->Bool
  |[]=>true
  |(i,f)::rest=>rest.all (λ(j,g)=>i != j&& !DX an j i&&(DX an i j||PG f g))&&go rest
structure Jo where
 idx:Nat
 n:Option Nat
 p:Aa
 v:Aa
def Qr(an:List Nat)(i:Nat):List Jo->IT->IT
 |[],t=>t
 |f::fs,t=>if DX an f.idx i then Qr an i fs t else .load f.n f.p λv=> .same f.v v (Qr an i fs t)
def Ls(i:Nat)(r:Er)(σ:BD)(fl:List Jo):List Jo:=
 match r with
 | .load n p (some d)=>match σ.at d with
  | .val v=>{idx:=i,n,p,v}::fl
  |_=>fl
 |_=>fl
def Qs(ops:List Oper)(i:Nat):Bool:=ops.any λo=>match o.guard with|some (j,_)=>j==i|none=>false
def kL(d:Option Nat)(σ:BD)(K:BD->IT):IT:=
 match d with
 |none=>K σ
 |some d=>match σ.at d with
  | .val v=> .AH v (K (σ.set d (.Nq true))) (K (σ.set d (.Nq false)))
  |_=>K σ
def PH(C:FI)(fid:FuncId)(ops:List Oper)(an:List Nat):List Nat->List (Nat×FP)->List Jo->BD->(BD->IT)->IT
 |[],ann,_,σ,K=>if Uq ops.length an ann.reverse then K σ else .fail
 |i::rest,ann,fl,σ,K=>
  match ops[i]? with
  |none=> .fail
  |some o=>match HT ops σ o with
   | .L6 true=>match Fv C fid ops σ o with
    |none=> .fail
    |some r=>r.LQ C (σ.drop r.news) λσ'=>
     let next:=kL (if Qs ops i then o.dst else none) σ' λσ''=>PH C fid ops an rest ((i,Ta C ops σ o (some r))::ann) (Ls i r σ' fl) σ'' K
     if r.Qk then Qr an i fl next else next
   | .L6 false=>PH C fid ops an rest ((i,Ta C ops σ o none)::ann) fl (σ.put o.dst .skip) K
   |_=> .fail
def EP(ops:List Oper)(o:Oper):List Nat:=
 o.dst.toList++match o.op with
  | .move (.tmp s)=>(match o.dst with|some d=>if uI ops d then[s] else[]|none=>[])
  | .assign (.tmp s)=>[s]
  | .store _ _ (.tmp s)=>[s]
  | .call c=>(match c.callee with| .builtin .append=>Jv c.args.toList|_=>[])
  | .makeFunc _ _ captured=>Jv captured.toList
  |_=>[]
def CO:Code->List Nat
 | .region _ ops _=>ops.toList.flatMap (EP ops.toList)
 | .seq a b=>CO a++CO b
 | .cond _ a b=>CO a++CO b
 | .block _ b=>CO b
 | .loop b=>CO b
 | .scope b=>CO b
 |_=>[]
def B0:Code->List Nat
 | .region _ ops _=>ops.toList.flatMap (EY ops.toList)
 | .seq a b=>B0 a++B0 b
 | .cond (.tmp s) a b=>s::(B0 a++B0 b)
 | .cond _ a b=>B0 a++B0 b
 | .block _ b=>B0 b
 | .loop b=>B0 b
 | .scope b=>B0 b
 |_=>[]
def BD.clear(σ:BD):List Nat->BD
 |[]=>σ
 |s::ss=>BD.clear (σ.set s .undef) ss
def FZ:Code->Option Nat
 | .region id _ _=>some id
 | .seq a b=>(FZ a).orElse λ_=>FZ b
 | .cond _ a b=>(FZ a).orElse λ_=>FZ b
 | .block _ b| .loop b| .scope b=>FZ b
 |_=>none
def Ur(σ:BD):List (Nat×Sh)->Option (List Aa)
 |[]=>some []
 |(s,sh)::l=>
  let v:=match sh,σ.at s with
   | .val,x=>x.Gu
   | .own,.own v=>some v
   | .box n ow,.box _ cs Mz=>if cs.length=n/\ow.all (Mz.contains ·) then some (.agg cs) else none
   |_,_=>none
  match v,Ur σ l with
  |some v,some vs=>some (v::vs)
  |_,_=>none
def WV:D6->Nat
 | .box ver _ _=>ver
 |_=>0
def ID(vs:List Aa):List (Nat×Sh)->Nat->BD->(BD->IT)->IT
 |[],_,σ,K=>K σ
 |(s,.val)::l,i,σ,K=>ID vs l (i+1) (σ.set s (.val (vs.getD i .nilIface))) K
 |(s,.own)::l,i,σ,K=>ID vs l (i+1) (σ.set s (.own (vs.getD i .nilIface))) K
 |(s,.box n ow)::l,i,σ,K=> .cells n (vs.getD i .nilIface) λcs=>ID vs l (i+1) (σ.set s (.box (WV (σ.at s)+1) (Ul n cs) ow)) K
def eH(σ:BD)(σ':BD)(l:List (Nat×Sh)):Bool:=
 (List.range σ.length).all λs=>match σ.at s with
  | .box ver _ _=>(l.map (·.1)).contains s||(match σ'.at s with| .box Fw _ _=>Fw==ver|_=>false)
  | .EG _ _=>(l.map (·.1)).contains s||(match σ'.at s with| .EG _ _=>true|_=>false)
  |_=>true
def RC(σ0:BD)(l:List (Nat×Sh))(x:EL)(σ':BD):IT:=
 if eH σ0 σ' l then match Ur σ' l with
  |some vs=> .ret x vs
  |none=> .fail
 else .fail
def uK(l:List (Nat×Sh))(ws:List Nat)(σ:BD):Bool:=l.all λ(s,_)=>ws.contains s||(match σ.at s with| .box _ _ _=>true|_=>false)
def X1(ops:List Oper):Bool:=ops.zipIdx.all λ(o,i)=>(Oper.S9 o).all λe=>decide (e<i)
def Qt(C:FI)(fid:FuncId)(ops:List Oper)(draw:Bool)(σ:BD)(K:BD->IT):IT:=
 if draw then(if X1 ops then PH C fid ops (Un ops) (dr ops) [] [] σ K else .fail) else kJ C fid ops ops σ K
def X2(key:Nat)(σ:BD)(ws:List Nat)(l:List (Nat×Sh))(t:(EL->BD->IT)->IT)(K:EL->BD->IT):IT:=
 let σ0:=σ.clear ws
 if uK l ws σ then .Dg key (t λx σ'=>RC σ0 l x σ') λx vs=>ID vs l 0 σ0 λσ'=>K x σ' else .fail
def tl(K:EL->BD->IT):EL->BD->IT
 | .normal,_=> .fail
 | .exit i,σ=>K (.exit i) σ
 | .ret,σ=>K .ret σ
def Fx(C:FI)(fid:FuncId):Code->BD->(EL->BD->IT)->IT
 | .skip,σ,K=>K .normal σ
 | .region id ops draw,σ,K=>match C.th fid id with
  |none=>Qt C fid ops.toList draw σ (K .normal)
  |some l=>X2 (200000+id) σ (ops.toList.flatMap (EP ops.toList)++ops.toList.flatMap (EY ops.toList)) l (λK=>Qt C fid ops.toList draw σ (K .normal)) K
 | .seq a b,σ,K=>Fx C fid a σ λx σ'=>match x with
  | .normal=>Fx C fid b σ' K
  | .exit i=>K (.exit i) σ'
  | .ret=>K .ret σ'
 | .cond c a b,σ,K=>match c,DJ C σ c with
  |_,some (.Nq true)=>Fx C fid a σ K
  |_,some (.Nq false)=>Fx C fid b σ K
  | .tmp s,some (.val v)=>match C.tg fid s with
   |none=> .AH v (Fx C fid a (σ.set s (.Nq true)) K) (Fx C fid b (σ.set s (.Nq false)) K)
   |some l=>X2 (100000+s) σ (s::(CO a++CO b++B0 a++B0 b)) l (λK=> .AH v (Fx C fid a (σ.set s (.Nq true)) K) (Fx C fid b (σ.set s (.Nq false)) K)) K
  |_,_=> .fail
 | .block id b,σ,K=>Fx C fid b σ λx σ'=>match x with
  | .normal=>K .normal σ'
  | .exit i=>if i=id then K .normal σ' else K (.exit i) σ'
  | .ret=>K .ret σ'
 | .loop b,σ,K=>
  let l:=C.xy fid ((FZ b).getD 0)
  let ws:=CO b++B0 b
  let σ0:=σ.clear ws
  if uK l ws σ then match Ur σ l with
   |none=> .fail
   |some init=> .loop ((FZ b).getD 0) init (λvs=>ID vs l 0 σ0 λσh=>Fx C fid b σh λx σ'=>RC σ0 l x σ') λx vs=>ID vs l 0 σ0 λσ'=>tl K x σ'
  else .fail
 | .exit id,σ,K=>K (.exit id) σ
 | .ret,σ,K=>K .ret σ
 | .scope b,σ,K=>Fx C fid b σ K
 | .label _,σ,K=>K .normal σ
 |_,_,_=> .fail
def FT(C:FI)(σ:BD):List ResultVar->List Aa->(List Aa->IT)->IT
 |[],Dw,K=>K Dw.reverse
 | .tmp t::rs,Dw,K=>match(σ.at t).Gu with
  |some v=>FT C σ rs (v::Dw) K
  |none=> .fail
 | .cell a t::rs,Dw,K=>match EN C.P t,Fu C σ (.tmp a) with
  |some none,some (.NI _ o _ cs _)=>if o<cs.length then FT C σ rs (cs.getD o .nilIface::Dw) K else .fail
  |some (some n),some (.NI _ o _ cs _)=>if o+n<=cs.length then FT C σ rs (.agg ((cs.drop o).take n)::Dw) K else .fail
  |some n,some (.ptr p)=> .load n p λv=>FT C σ rs (v::Dw) K
  |_,_=> .fail
def Oy(σ:BD):List ResultVar->Bool
 |[.tmp t]=>match σ.at t with| .own _=>true|_=>false
 |_=>false
def kM(C:FI)(σ:BD):List (Nat×Nat)->IT->IT
 |[],t=>t
 |(s,off)::l,t=>match(σ.at s).Gu with
  |some p=> .Hu off p (kM C σ l t)
  |none=> .fail
def NL:List Aa->List Aa->(List Aa->IT)->IT
 |[],Dw,K=>K Dw.reverse
 |v::vs,Dw,K=> .KU v λv=>NL vs (v::Dw) K
def Sv:List Aa->IT
 |[v]=> .ret .ret [v]
 |vs=> .ret .ret [.tuple vs]
def ZP(C:FI)(fid:FuncId)(fn:Func)(σ:BD):IT:=
 if C.Ii fid&& !Oy σ fn.results.toList then .fail
 else kM C σ (C.uH fid) (FT C σ fn.results.toList [] λvs=>if C.uG fid then NL vs [] Sv else Sv vs)
def uL(C:FI)(fid:FuncId)(fn:Func)(args:List Aa):IT:=
 match fn.body with
 |none=> .fail
 |some c=>Fx C fid c (args.map .val++List.replicate (fn.ntmps-args.length) .undef) λx σ=>match x with
  | .normal=>ZP C fid fn σ
  | .exit _=> .fail
  | .ret=>ZP C fid fn σ
def aDl(C:FI)(fid:FuncId)(args:List Aa):IT:=
 match C.P.funcs[D7 fid]? with
 |some fn=>if fn.name== "runtime.NumGoroutine" then .fail else uL C fid fn args
 |none=> .fail
def B5(C:FI)(fid:FuncId)(args:List Aa):IT:=
 match C.xz fid with
 |some p=>p args
 |none=>aDl C fid args
abbrev g(l:List Aa)(i:Nat):Aa:=l.getD i .nilIface
abbrev I(n:Int):Aa:= .int .i64 n
abbrev S(s:As):Aa:= .str s
abbrev tt:Aa:= .bool true
abbrev ff:Aa:= .bool false
abbrev FI.run(C:FI):Nat->IT->Ae->Option Jn:=IT.run (B5 C)
end Go.Am
end
end
section
namespace Go.Am
theorem IT.Jw{fn:FuncId->List Aa->IT}{rec aDm:IT->Ae->Option Jn}(hr:∀t h r,rec t h=some r->aDm t h=some r):
  ∀(t:IT) (h:Ae) (r:Jn),IT.step fn rec t h=some r->IT.step fn aDm t h=some r:=by
 intro t;induction t with
 |ret x vs=>intro h r hh;simpa[IT.step] using hh
 |fail=>intro h r hh;simp[IT.step] at hh
 |op o args k ih=>
  intro h r hh;simp only[IT.step] at hh⊢;split at hh;·exact ih _ _ _ hh
  .cases hh
 |cells n v k ih=>
  intro h r hh;simp only[IT.step] at hh⊢;split at hh;·rename_i hc;rw[if_pos hc];exact ih _ _ _ hh
  .cases hh
 |AH c t e iht ihe=>
  intro h r hh;simp only[IT.step] at hh⊢;split at hh;·exact iht _ _ hh
  .exact ihe _ _ hh
  .cases hh
 |load n p k ih=>
  intro h r hh;simp only[IT.step] at hh⊢;split at hh;·exact ih _ _ _ hh
  .cases hh
 |store n p v k ih=>
  intro h r hh;simp only[IT.step] at hh⊢;split at hh;·exact ih _ _ hh
  .cases hh
 |alloc n v k ih=>
  intro h r hh;simp only[IT.step] at hh⊢;split at hh;·exact ih _ _ _ hh
  .cases hh
 |call f args k ih=>
  intro h r hh;simp only[IT.step] at hh⊢;split at hh;·rename_i h1;rw[hr _ _ _ h1];exact ih _ _ _ hh
  .cases hh
 |FH g args k ih=>
  intro h r hh;simp only[IT.step] at hh⊢;split at hh
  .rename_i f a ht;split at hh;·rename_i h1;simp only[hr _ _ _ h1];exact ih _ _ _ hh
   .cases hh
  .cases hh
 |Be f args k ih=>
  intro h r hh;simp only[IT.step] at hh⊢;split at hh
  .rename_i GI;rw[if_pos GI];split at hh
   .rename_i h1;rw[hr _ _ _ h1];split at hh;·rename_i tn;simp only[tn,BN];exact ih _ _ _ hh
    .cases hh
   .cases hh
  .cases hh
 |loop key init body k ihb ihk=>
  intro h r hh;simp only[IT.step] at hh⊢;split at hh;·rename_i h1;rw[ihb _ _ _ h1];exact hr _ _ _ hh
  .rename_i x vs h1 hne hx;rw[ihb _ _ _ hx];cases x<;>first|exact ihk _ _ _ _ hh|exact absurd rfl hne
  .cases hh
 |Dg key t k iht ihk=>
  intro h r hh;simp only[IT.step] at hh⊢;split at hh;·rename_i h1;rw[iht _ _ h1];exact ihk _ _ _ _ hh
  .cases hh
 |same a b k ih=>
  intro h r hh;simp only[IT.step] at hh⊢;split at hh;·rename_i hc;rw[if_pos hc];exact ih _ _ hh
  .cases hh
 |OY k ih=>intro h r hh;simp only[IT.step] at hh⊢;exact ih _ _ _ hh
 |JY m key v k ih=>
  intro h r hh;simp only[IT.step] at hh⊢;split at hh;·exact ih _ _ hh
  .cases hh
 |L5 z ok m key k ih=>
  intro h r hh;simp only[IT.step] at hh⊢;split at hh;·exact ih _ _ _ hh
  .cases hh
 |make size bytes zero len cap k ih=>
  intro h r hh;simp only[IT.step] at hh⊢;split at hh;·exact ih _ _ _ hh
  .cases hh
 |Ht size bytes s x k ih=>
  intro h r hh;simp only[IT.step] at hh⊢;split at hh;·exact ih _ _ _ hh
  .cases hh
 |E9 s k ih=>
  intro h r hh;simp only[IT.step] at hh⊢;split at hh;·exact ih _ _ _ hh
  .cases hh
 |KU v k ih=>
  intro h r hh;simp only[IT.step] at hh⊢;split at hh;·exact ih _ _ _ hh
  .cases hh
 |Hu off p k ih=>
  intro h r hh;simp only[IT.step] at hh⊢;split at hh;·exact ih _ _ hh
  .cases hh
 |Ft size bytes s x k ih=>
  intro h r hh;simp only[IT.step] at hh⊢;split at hh;·exact ih _ _ _ hh
  .cases hh
 |FY size bytes s x k ih=>
  intro h r hh;simp only[IT.step] at hh⊢;split at hh;·exact ih _ _ _ hh
  .cases hh
 |mem o args k ih=>
  intro h r hh;simp only[IT.step] at hh⊢;split at hh;·exact ih _ _ _ hh
  .cases hh
 |uE f args k ih=>
  intro h r hh;simp only[IT.step] at hh⊢;split at hh
  .rename_i h1;rw[hr _ _ _ h1];split at hh;·rename_i tn;simp only[tn,BN];exact ih _ _ _ hh
   .cases hh
  .cases hh
theorem IT.uM{fn:FuncId->List Aa->IT}:∀(n:Nat) (t:IT) (h:Ae) (r:Jn),IT.run fn n t h=some r->IT.run fn (n+1) t h=some r:=by
 intro n;induction n with
 |zero=>intro t h r hh;simp[IT.run] at hh
 |succ n ih=>intro t h r hh;exact IT.Jw (λt h r=>ih t h r) t h r hh
theorem IT.Ij{fn:FuncId->List Aa->IT}{n m:Nat}(hnm:n<=m){t:IT}{h:Ae}{r:Jn}(hh:IT.run fn n t h=some r):IT.run fn m t h=some r:=by
 induction hnm with
 |refl=>exact hh
 |step _ ih=>exact IT.uM _ _ _ _ ih
abbrev Post:=EL->List Aa->Ae->Prop
def W(C:FI)(t:IT)(Q:Post)(h:Ae):Prop:=∃n x vs h',C.run n t h=some (x,vs,h')/\Q x vs h'
section
variable{C:FI}{Q:Post}{h:Ae}
theorem W.mono{t:IT}{Q':Post}(hw:W C t Q h)(hq:∀x vs h',Q x vs h'->Q' x vs h'):W C t Q' h:=
 let⟨n,x,vs,h',hr,q⟩:=hw;⟨n,x,vs,h',hr,hq _ _ _ q⟩
theorem aDn{x:EL}{vs:List Aa}(hq:Q x vs h):W C (.ret x vs) Q h:=⟨1,x,vs,h,rfl,hq⟩
theorem CL{t:IT}(hh:∃n x vs h',IT.step (B5 C) (C.run n) t h=some (x,vs,h')/\Q x vs h'):W C t Q h:=
 let⟨n,x,vs,h',hr,q⟩:=hh;⟨n+1,x,vs,h',hr,q⟩
theorem W.succ{t:IT}(hh:W C t Q h):∃n x vs h',IT.step (B5 C) (C.run n) t h=some (x,vs,h')/\Q x vs h':=by
 obtain⟨n,x,vs,h',hr,q⟩:=hh;cases n with
 |zero=>simp[FI.run,IT.run] at hr
 |succ n=>exact⟨n,x,vs,h',hr,q⟩
theorem aI8{o:We}{args:List Aa}{k:Aa->IT}{v:Aa}(hv:Aw o args=some v)(hw:W C (k v) Q h):W C (.op o args k) Q h:=by obtain⟨n,x,vs,h',hr,q⟩:=hw.succ;exact CL ⟨n,x,vs,h',by simp only[IT.step,hv];exact hr,q⟩
theorem du{n:Nat}{v:Aa}{k:List Aa->IT}(hv:v.cells.length=n)(hw:W C (k v.cells) Q h):W C (.cells n v k) Q h:=by obtain⟨m,x,vs,h',hr,q⟩:=hw.succ;exact CL ⟨m,x,vs,h',by simp only[IT.step,hv,BN];exact hr,q⟩
theorem tq{b:Bool}{t e:IT}(ht:b=true->W C t Q h)(he:b=false->W C e Q h):W C (.AH (.bool b) t e) Q h:=by
 cases b with
 |true=>obtain⟨m,x,vs,h',hr,q⟩:=(ht rfl).succ;exact CL ⟨m,x,vs,h',by simp only[IT.step];exact hr,q⟩
 |false=>obtain⟨m,x,vs,h',hr,q⟩:=(he rfl).succ;exact CL ⟨m,x,vs,h',by simp only[IT.step];exact hr,q⟩
theorem yb{n:Option Nat}{p v:Aa}{k:Aa->IT}(hv:Bb h n p=some v)(hw:W C (k v) Q h):W C (.load n p k) Q h:=by obtain⟨m,x,vs,h',hr,q⟩:=hw.succ;exact CL ⟨m,x,vs,h',by simp only[IT.step,hv];exact hr,q⟩
theorem dv{n:Nat}{p v:Aa}{k:IT}{h1:Ae}(hv:Cv h n p v=some h1)(hw:W C k Q h1):W C (.store n p v k) Q h:=by obtain⟨m,x,vs,h',hr,q⟩:=hw.succ;exact CL ⟨m,x,vs,h',by simp only[IT.step,hv];exact hr,q⟩
theorem dw{n:Nat}{v:Aa}{k:Aa->IT}(hv:v.cells.length=n)(hw:W C (k (.ptr (some (h.length,0)))) Q (h++[.cells v.cells])):W C (.alloc n v k) Q h:=by obtain⟨m,x,vs,h',hr,q⟩:=hw.succ;exact CL ⟨m,x,vs,h',by simp only[IT.step,X0,hv,BN];exact hr,q⟩
theorem yc{a b:Aa}{k:IT}(hv:Aa.beq a b=true)(hw:W C k Q h):W C (.same a b k) Q h:=by obtain⟨m,x,vs,h',hr,q⟩:=hw.succ;exact CL ⟨m,x,vs,h',by simp only[IT.step,hv,BN];exact hr,q⟩
theorem yd{k:Aa->IT}(hw:W C (k (.map (some h.length))) Q (h++[.map []])):W C (.OY k) Q h:=by obtain⟨m,x,vs,h',hr,q⟩:=hw.succ;exact CL ⟨m,x,vs,h',by simp only[IT.step];exact hr,q⟩
theorem ye{m key v:Aa}{k:IT}{h1:Ae}(hv:Sq h m key v=some h1)(hw:W C k Q h1):W C (.JY m key v k) Q h:=by obtain⟨n,x,vs,h',hr,q⟩:=hw.succ;exact CL ⟨n,x,vs,h',by simp only[IT.step,hv];exact hr,q⟩
theorem yf{z:Aa}{ok:Bool}{m key v:Aa}{k:Aa->IT}(hv:Sr h z ok m key=some v)(hw:W C (k v) Q h):W C (.L5 z ok m key k) Q h:=by obtain⟨n,x,vs,h',hr,q⟩:=hw.succ;exact CL ⟨n,x,vs,h',by simp only[IT.step,hv];exact hr,q⟩
theorem yg{size bytes:Nat}{zero:List Aa}{len cap v:Aa}{k:Aa->IT}{h1:Ae}(hv:Uf h size bytes zero len cap=some (h1,v))(hw:W C (k v) Q h1):W C (.make size bytes zero len cap k) Q h:=by obtain⟨n,x,vs,h',hr,q⟩:=hw.succ;exact CL ⟨n,x,vs,h',by simp only[IT.step,hv];exact hr,q⟩
theorem dx{size bytes:Nat}{s x v:Aa}{k:Aa->IT}{h1:Ae}(hv:Jt h size bytes s x=some (h1,v))(hw:W C (k v) Q h1):W C (.Ht size bytes s x k) Q h:=by obtain⟨n,x,vs,h',hr,q⟩:=hw.succ;exact CL ⟨n,x,vs,h',by simp only[IT.step,hv];exact hr,q⟩
theorem eI{s v:Aa}{k:Aa->IT}{h1:Ae}(hv:IL h s=some (h1,v))(hw:W C (k v) Q h1):W C (.E9 s k) Q h:=by obtain⟨n,x,vs,h',hr,q⟩:=hw.succ;exact CL ⟨n,x,vs,h',by simp only[IT.step,hv];exact hr,q⟩
theorem aDo{u v:Aa}{k:Aa->IT}{h1:Ae}(hv:Kn h u=some (h1,v))(hw:W C (k v) Q h1):W C (.KU u k) Q h:=by obtain⟨n,x,vs,h',hr,q⟩:=hw.succ;exact CL ⟨n,x,vs,h',by simp only[IT.step,hv];exact hr,q⟩
theorem dy{off:Nat}{p:Aa}{k:IT}{h1:Ae}(hv:KV h off p=some h1)(hw:W C k Q h1):W C (.Hu off p k) Q h:=by obtain⟨n,x,vs,h',hr,q⟩:=hw.succ;exact CL ⟨n,x,vs,h',by simp only[IT.step,hv];exact hr,q⟩
theorem yh{size bytes:Nat}{s x v:Aa}{k:Aa->IT}{h1:Ae}(hv:Fo h size bytes s x=some (h1,v))(hw:W C (k v) Q h1):W C (.Ft size bytes s x k) Q h:=by obtain⟨n,x,vs,h',hr,q⟩:=hw.succ;exact CL ⟨n,x,vs,h',by simp only[IT.step,hv];exact hr,q⟩
theorem p9{size bytes:Nat}{s x v:Aa}{k:Aa->IT}(hv:O7 h size bytes s x=some v)(hw:W C (k v) Q h):W C (.FY size bytes s x k) Q h:=by obtain⟨n,x,vs,h',hr,q⟩:=hw.succ;exact CL ⟨n,x,vs,h',by simp only[IT.step,hv];exact hr,q⟩
theorem aDp{o:uD}{args:List Aa}{v:Aa}{k:Aa->IT}{h1:Ae}(hv:Ep o h args=some (h1,v))(hw:W C (k v) Q h1):W C (.mem o args k) Q h:=by obtain⟨n,x,vs,h',hr,q⟩:=hw.succ;exact CL ⟨n,x,vs,h',by simp only[IT.step,hv];exact hr,q⟩
def Ev(C:FI)(f:FuncId)(args:List Aa)(h:Ae)(R:Aa->Ae->Prop):Prop:=
 W C (B5 C f args) (λx vs h'=>x= .ret/\∃r,vs=[r]/\R r h') h
theorem Ev.mono{f:FuncId}{args:List Aa}{R R':Aa->Ae->Prop}(hw:Ev C f args h R)(hr:∀r h',R r h'->R' r h'):Ev C f args h R':=
 W.mono hw λ_ _ _ ⟨hx,r,hv,hR⟩=>⟨hx,r,hv,hr _ _ hR⟩
theorem uN{f:FuncId}{args:List Aa}{k:Aa->IT}(hc:Ev C f args h λr h1=>W C (k r) Q h1):W C (.call f args k) Q h:=by obtain⟨n,x,vs,h1,hr,hx,r,hv,m,x',Hi,h',Fy,q⟩:=hc;subst hx;subst hv;refine CL ⟨max n m,x',Hi,h',?_,q⟩;have tr:=IT.Ij (NF n m) hr;have h2:=IT.Ij (Bt (My n m) (Gg _)) Fy;simp only[IT.step];simp only[FI.run] at*;rw[tr];exact h2
theorem dz{f:FuncId}{args:List Aa}{k:Aa->IT}(ha:args.all Aa.Lp=true)(hc:Ev C f args [] λr _=>r.Lp=true/\W C (k r) Q h):W C (.Be f args k) Q h:=by obtain⟨n,x,vs,h1,hr,hx,r,hv,GI,m,x',Hi,h',Fy,q⟩:=hc;subst hx;subst hv;refine CL ⟨max n m,x',Hi,h',?_,q⟩;have tr:=IT.Ij (NF n m) hr;have h2:=IT.Ij (Bt (My n m) (Gg _)) Fy;simp only[IT.step,ha,BN];simp only[FI.run] at*;rw[tr];simp only[GI,BN];exact h2
theorem yi{key:Nat}{t:IT}{k:EL->List Aa->IT}(hw:W C t (λx vs h1=>W C (k x vs) Q h1) h):W C (.Dg key t k) Q h:=by obtain⟨n,x,vs,h1,hr,hw'⟩:=hw.succ;obtain⟨m,x',Hi,h',Fy,q⟩:=hw'.succ;refine CL ⟨max n m,x',Hi,h',?_,q⟩;have e1:=IT.Jw (λt h r=>IT.Ij (fn:=B5 C) (NF n m)) _ _ _ hr;have e2:=IT.Jw (λt h r=>IT.Ij (fn:=B5 C) (My n m)) _ _ _ Fy;simp only[IT.step];simp only[FI.run] at*;rw[e1];exact e2
end
end Go.Am
end
