/- Lemmas -/
import GoSem.Step
set_option linter.all false
open Option renaming some→zz,none→zy
open List renaming length→zx,range→zk,replicate→zg
open Bool renaming false→zw,true→zt
open Go.Value renaming int→zu
open Go.Fn renaming func→zm
open Go.IntKind renaming i64→zl
open Go.Op renaming bytesLess→zh
theorem zv{p q:Prop}(h:p)(e:p->q:=by intro h;simpa using h):q:=e h
def Ac:=@if_neg
def Ae:=@Nat.le_refl
def Af:=@if_pos
def Ag:=@not_false_eq_true
def Ak:=@List.getElem?_append_left
def Al:=@decide_eq_false
def An:=@List.getElem?_eq_getElem
def Ao:=@List.length_map
def Ap:=@false_implies
def Aq:=@List.getElem?_eq_some_iff
def As:=@decide_eq_true
def Au:=@List.getElem?_set_ne
def Av:=@true_implies
def Aw:=@List.length_append
def Ax:=@List.length_take
def Ay:=@List.mem_append
def Az:=@not_true_eq_false
def AB:=@List.take_succ_eq_append_getElem
def AE:=@eq_true
def AF:=@List.take_of_length_le
def AG:=@List.drop_eq_getElem_cons
def AK:=@List.append_assoc
def AM:=@List.mem_singleton
def AN:=@List.getElem_mem
def AP:=@Nat.lt_or_ge
def AR:=@List.mem_cons
def AS:=@List.getD_eq_getElem?_getD
def AT:=@List.drop_of_length_le
def AV:=@Nat.zero_le
def AY:=@List.getElem?_set_self
def A3:=@Int.toNat_natCast
def A4:=@List.Sublist.refl
def Bc:=@Array.getElem?_eq_some_iff
def Bi:=@List.length_drop
def Bk:=@List.forall_mem_cons
def Bl:=@List.length_singleton
def Bm:=@List.map_cons
def Bn:=@List.length_cons
def Bq:=@Bool.and_eq_true
def Br:=@List.length_set
def Bs:=@List.mem_map
def Bt:=@List.take_length
def Bv:=@Nat.le_trans
def Bw:=@Nat.add_zero
def Bz:=@List.getElem?_append_right
def BB:=@List.append_nil
def BF:=@Option.some.injEq
def BJ:=@List.mem_of_mem_take
def BL:=@List.map_append
def BO:=@List.mem_of_mem_drop
def BP:=@List.length_nil
def BR:=@if_true
def BV:=@List.set_append_right
def BY:=@List.nil_append
def B1:=@List.set_eq_take_append_cons_drop
def B2:=@Nat.zero_add
def B3:=@ne_eq
def B6:=@Option.map_some
def B9:=@Nat.add_mul
def Ca:=@List.size_toArray
def Cc:=@List.getElem?_map
def Cd:=@decide_eq_true_eq
def Cf:=@Nat.zero_lt_one
def Ci:=@List.getElem?_take
def Cj:=@congrArg
def Ck:=@List.mem_filterMap
def Cl:=@List.nodup_cons
def Cm:=@List.mem_append_right
def Ct:=@Nat.min_eq_left
def Cu:=@List.getElem?_drop
def Cv:=@Array.length_toList
def CA:=@Bool.false_eq_true
def CB:=@List.take_sublist
def CG:=@eq_self
def CJ:=@List.take_append_drop
def CO:=@List.nodup_append
def CP:=@Option.bind_some
def CQ:=@List.cons_append
def CR:=@List.getElem_map
def CV:=@List.mem_of_getElem?
def CW:=@List.getElem?_of_mem
def C6:=@List.take_append_of_le_length
def Da:=@List.map_nil
def Db:=@Nat.succ_pos
def Dl:=@Nat.sub_self
def Dn:=@List.mem_append_left
def Ds:=@decide_eq_decide
def Dt:=@List.flatten_cons
def DC:=@List.eq_nil_of_length_eq_zero
def DF:=@Nat.lt_irrefl
def DK:=@List.mem_or_eq_of_mem_set
def DO:=@decide_true
def DP:=@of_decide_eq_true
def DS:=@List.getElem?_take_of_lt
def DX:=@decide_false
def DY:=@Ne.symm
def DZ:=@List.find?_cons
def D1:=@List.not_mem_nil
def Ea:=@Nat.mul_le_mul_right
def Eb:=@Array.getElem?_eq_getElem
def Ei:=@List.all_eq_true
def Ej:=@List.length_pos_iff
def EA:=@Option.some.inj
def EI:=@List.map_set
def EJ:=@List.drop_length
def EV:=@if_false
def E3:=@Int.toNat_of_nonneg
def E4:=@List.findIdx?_eq_some_iff_findIdx_eq
def E5:=@List.reverse_cons
def E7:=@List.filterMap_append
def Fi:=@List.drop_drop
def Fj:=@List.take_take
def Fs:=@List.cons.injEq
def Fx:=@List.filter_append
def Fy:=@Nat.add_sub_cancel
def FD:=@Nat.le_succ
def FE:=@Option.getD_some
def FM:=@List.map_take
def FW:=@List.take_left
def Gc:=@List.mem_filter
def Gd:=@Nat.one_mul
def Ge:=@Nat.mul_one
def Gu:=@List.length_replicate
def GC:=@Nat.le_add_right
def GM:=@Bool.false_or
def Hc:=@List.getElem?_cons_zero
def Hy:=@Array.toList_append
def HL:=@Nat.le_max_right
def HM:=@List.filter_cons
def HW:=@Array.ext'
def Im:=@Nat.le_max_left
def Io:=@List.take_left'
def Iy:=@bne_self_eq_false
def Iz:=@List.reverse_reverse
def IA:=@Int.le_refl
def IP:=@List.map_drop
def IQ:=@List.getElem_append_left
def I2:=@List.length_reverse
def I3:=@List.filterMap_cons
def Jj:=@Array.eq_empty_of_size_eq_zero
def Jk:=@Nat.le_mul_of_pos_right
def Jl:=@Bool.not_false
def Jm:=@Int.eq_ofNat_of_zero_le
def JQ:=@Nat.lt_of_lt_of_le
def JR:=@Int.not_lt
def J1:=@List.drop_left'
def J4:=@Prod.mk.injEq
def J5:=@List.any_cons
def Ki:=@List.getElem?_eq_none
def Kj:=@List.set_getElem_self
def Kx:=@Array.getD_eq_getD_getElem?
def Ky:=@Array.size_append
def KU:=@List.take_zero
def KV:=@Array.replicate_succ
def KW:=@Array.replicate_zero
def Lh:=@List.extract_eq_take_drop
def Li:=@List.getLast?_eq_getElem?
def Lw:=@List.toList_toArray
def Lx:=@List.replicate_succ
def Ly:=@not_or
def LA:=@List.append_toArray
def LB:=@List.reverse_append
def L7:=@Bool.or_false
def L8:=@or_false
def Ml:=@List.set_cons_zero
def Ms:=@List.length_eq_zero_iff
def Nn:=@List.drop_zero
def No:=@Nat.le_of_eq
def Np:=@and_true
def Nr:=@true_and
def Ns:=@Option.map_eq_some_iff
def Nt:=@List.push_toArray
def Nu:=@List.reverse_singleton
def NW:=@List.singleton_append
def NX:=@Nat.eq_of_beq_eq_true
def N8:=@Array.toList_map
def N9:=@Nat.lt_succ_self
def Oa:=@List.any_eq_true
def OP:=@List.drop_append_of_le_length
def PD:=@UInt8.toNat_inj
def PQ:=@List.take_set_of_le
def PR:=@List.flatten_append
def PS:=@List.drop_take_self
def PT:=@List.mem_map_of_mem
def P2:=@Nat.add_comm
def P3:=@Nat.ne_of_lt
def P4:=@Nat.le_of_lt
def Q6:=@Nat.eq_zero_or_pos
def Q7:=@List.nodup_nil
def Q8:=@List.find?_eq_none
def Q9:=@Int.fdiv_eq_ediv_of_nonneg
def RT:=@Option.filter_eq_some_iff
def RU:=@List.mem_of_find?_eq_some
def Su:=@List.ext_getElem?
def Sv:=@List.find?_append
def Sw:=@Decidable.not_not
def Tc:=@Bool.bne_true
def UH:=@decide_eq_false_iff_not
def UI:=@List.drop_append
def UJ:=@List.reverse_nil
def UK:=@Option.bind_eq_some_iff
def UL:=@Nat.add_sub_cancel_left
def UM:=@List.map_reverse
def VM:=@Nat.zero_mul
def VN:=@Bool.true_or
def WN:=@Bool.or_eq_true
def WO:=@List.any_append
def Xr:=@List.length_filter_le
def bH:=@Array.toList_extract
def bI:=@Bool.false_and
def bO:=@false_and
def cW:=@List.take_succ_cons
def cX:=@List.drop_set_of_lt
def cY:=@List.map_congr_left
def cZ:=@List.filter_eq_self
def gK:=@Bool.not_true
def gL:=@Bool.true_and
def gM:=@Nat.add_assoc
def gN:=@List.all_cons
def pP:=@Array.ext_getElem?
def pQ:=@Option.isSome_some
def pY:=@List.findIdx?_eq_some_iff_getElem
def vJ:=@and_self
def vK:=@List.any_nil
def vL:=@List.set_set
def vM:=@List.getLast?_nil
def vY:=@Array.getElem?_setIfInBounds_ne
def vZ:=@List.takeWhile_append_dropWhile
def cu:=@List.zipIdx_cons
def cw:=@List.take_append
def cy:=@List.mem_flatMap
def cz:=@Option.getD_none
def vj:=@List.foldl_cons
def wq:=@eq_comm
def ĵ:=@beq_iff_eq
def Ķ:=@Bool.and_false
def ķ:=@Bool.bne_false
def ń:=@List.getElem_append_right
def aCL:=@List.take_add
def aCM:=@List.eq_of_mem_replicate
def aCN:=@List.drop_nil
def aCO:=@List.take_nil
def aCP:=@Int.lt_irrefl
def aCQ:=@Int.ofNat.inj
def aEf:=@List.getElem?_cons_succ
def aEg:=@and_false
def aHo:=@List.length_eq_one_iff
def aHp:=@List.getElem_cons_zero
def aH0:=@List.contains_iff_mem
def aH1:=@Array.getElem?_toList
def aH2:=@List.dropLast_eq_take
def aH3:=@List.getElem_set_self
def aMv:=@List.range_eq_range'
def aMw:=@List.mem_cons_of_mem
def aMx:=@List.pairwise_append
def aNr:=@Nat.add_sub_cancel'
def aNs:=@Array.toList_zipIdx
def aNt:=@Array.getElem?_push
def aNu:=@List.getD_cons_zero
def aNv:=@List.getD_cons_succ
def aRt:=@List.zip_cons_cons
def aRu:=@Array.foldl_toList
def aRv:=@List.pairwise_cons
def aRw:=@Option.isSome_none
def aRx:=@Option.toList_some
def aRy:=@List.map_singleton
def aRz:=@List.set_cons_succ
def aS1:=@List.pairwise_map
def aS3:=@List.any_eq_false
def aS6:=@List.getElem_take
abbrev aXn:List UInt8:=[97,116,116,114,105,98,117,116,101,78,97,109,101,32,97,116,116,114,105,98,117,116,101,84,121,112,101,32,98,97,115,101,70,114,101,113,117,101,110,99,121,32,98,97,115,101,80,114,111,102,105,108,101,32,99,97,108,99,77,111,100,101,32,99,108,105,112,80,97,116,104,85,110,105,116,115,32,100,105,102,102,117,115,101,67,111,110,115,116,97,110,116,32,101,100,103,101,77,111,100,101,32,102,105,108,116,101,114,85,110,105,116,115,32,103,108,121,112,104,82,101,102,32,103,114,97,100,105,101,110,116,84,114,97,110,115,102,111,114,109,32,103,114,97,100,105,101,110,116,85,110,105,116,115,32,107,101,114,110,101,108,77,97,116,114,105,120,32,107,101,114,110,101,108,85,110,105,116,76,101,110,103,116,104,32,107,101,121,80,111,105,110,116,115,32,107,101,121,83,112,108,105,110,101,115,32,107,101,121,84,105,109,101,115,32,108,101,110,103,116,104,65,100,106,117,115,116,32,108,105,109,105,116,105,110,103,67,111,110,101,65,110,103,108,101,32,109,97,114,107,101,114,72,101,105,103,104,116,32,109,97,114,107,101,114,85,110,105,116,115,32,109,97,114,107,101,114,87,105,100,116,104,32,109,97,115,107,67,111,110,116,101,110,116,85,110,105,116,115,32,109,97,115,107,85,110,105,116,115,32,110,117,109,79,99,116,97,118,101,115,32,112,97,116,104,76,101,110,103,116,104,32,112,97,116,116,101,114,110,67,111,110,116,101,110,116,85,110,105,116,115,32,112,97,116,116,101,114,110,84,114,97,110,115,102,111,114,109,32,112,97,116,116,101,114,110,85,110,105,116,115,32,112,111,105,110,116,115,65,116,88,32,112,111,105,110,116,115,65,116,89,32,112,111,105,110,116,115,65,116,90,32,112,114,101,115,101,114,118,101,65,108,112,104,97,32,112,114,101,115,101,114,118,101,65,115,112,101,99,116,82,97,116,105,111,32,112,114,105,109,105,116,105,118,101,85,110,105,116,115,32,114,101,102,88,32,114,101,102,89,32,114,101,112,101,97,116,67,111,117,110,116,32,114,101,112,101,97,116,68,117,114,32,114,101,113,117,105,114,101,100,69,120,116,101,110,115,105,111,110,115,32,114,101,113,117,105,114,101,100,70,101,97,116,117,114,101,115,32,115,112,101,99,117,108,97,114,67,111,110,115,116,97,110,116,32,115,112,101,99,117,108,97,114,69,120,112,111,110,101,110,116,32,115,112,114,101,97,100,77,101,116,104,111,100,32,115,116,97,114,116,79,102,102,115,101,116,32,115,116,100,68,101,118,105,97,116,105,111,110,32,115,116,105,116,99,104,84,105,108,101,115,32,115,117,114,102,97,99,101,83,99,97,108,101,32,115,121,115,116,101,109,76,97,110,103,117,97,103,101,32,116,97,98,108,101,86,97,108,117,101,115,32,116,97,114,103,101,116,88,32,116,97,114,103,101,116,89,32,116,101,120,116,76,101,110,103,116,104,32,118,105,101,119,66,111,120,32,118,105,101,119,84,97,114,103,101,116,32,120,67,104,97,110,110,101,108,83,101,108,101,99,116,111,114,32,121,67,104,97,110,110,101,108,83,101,108,101,99,116,111,114,32,122,111,111,109,65,110,100,80,97,110]
abbrev aXo:List UInt8:=[97,100,100,114,101,115,115,32,97,112,112,108,101,116,32,97,114,101,97,32,97,114,116,105,99,108,101,32,97,115,105,100,101,32,98,97,115,101,32,98,97,115,101,102,111,110,116,32,98,103,115,111,117,110,100,32,98,108,111,99,107,113,117,111,116,101,32,98,111,100,121,32,98,114,32,98,117,116,116,111,110,32,99,97,112,116,105,111,110,32,99,101,110,116,101,114,32,99,111,108,32,99,111,108,103,114,111,117,112,32,100,100,32,100,101,116,97,105,108,115,32,100,105,114,32,100,105,118,32,100,108,32,100,116,32,101,109,98,101,100,32,102,105,101,108,100,115,101,116,32,102,105,103,99,97,112,116,105,111,110,32,102,105,103,117,114,101,32,102,111,111,116,101,114,32,102,111,114,109,32,102,114,97,109,101,32,102,114,97,109,101,115,101,116,32,104,49,32,104,50,32,104,51,32,104,52,32,104,53,32,104,54,32,104,101,97,100,32,104,101,97,100,101,114,32,104,103,114,111,117,112,32,104,114,32,104,116,109,108,32,105,102,114,97,109,101,32,105,109,103,32,105,110,112,117,116,32,107,101,121,103,101,110,32,108,105,32,108,105,110,107,32,108,105,115,116,105,110,103,32,109,97,105,110,32,109,97,114,113,117,101,101,32,109,101,110,117,32,109,101,116,97,32,110,97,118,32,110,111,101,109,98,101,100,32,110,111,102,114,97,109,101,115,32,110,111,115,99,114,105,112,116,32,111,98,106,101,99,116,32,111,108,32,112,32,112,97,114,97,109,32,112,108,97,105,110,116,101,120,116,32,112,114,101,32,115,99,114,105,112,116,32,115,101,97,114,99,104,32,115,101,99,116,105,111,110,32,115,101,108,101,99,116,32,115,111,117,114,99,101,32,115,116,121,108,101,32,115,117,109,109,97,114,121,32,116,97,98,108,101,32,116,98,111,100,121,32,116,100,32,116,101,109,112,108,97,116,101,32,116,101,120,116,97,114,101,97,32,116,102,111,111,116,32,116,104,32,116,104,101,97,100,32,116,105,116,108,101,32,116,114,32,116,114,97,99,107,32,117,108,32,119,98,114,32,120,109,112]
abbrev aXp:List UInt8:=[97,108,116,71,108,121,112,104,32,97,108,116,71,108,121,112,104,68,101,102,32,97,108,116,71,108,121,112,104,73,116,101,109,32,97,110,105,109,97,116,101,67,111,108,111,114,32,97,110,105,109,97,116,101,77,111,116,105,111,110,32,97,110,105,109,97,116,101,84,114,97,110,115,102,111,114,109,32,99,108,105,112,80,97,116,104,32,102,101,66,108,101,110,100,32,102,101,67,111,108,111,114,77,97,116,114,105,120,32,102,101,67,111,109,112,111,110,101,110,116,84,114,97,110,115,102,101,114,32,102,101,67,111,109,112,111,115,105,116,101,32,102,101,67,111,110,118,111,108,118,101,77,97,116,114,105,120,32,102,101,68,105,102,102,117,115,101,76,105,103,104,116,105,110,103,32,102,101,68,105,115,112,108,97,99,101,109,101,110,116,77,97,112,32,102,101,68,105,115,116,97,110,116,76,105,103,104,116,32,102,101,68,114,111,112,83,104,97,100,111,119,32,102,101,70,108,111,111,100,32,102,101,70,117,110,99,65,32,102,101,70,117,110,99,66,32,102,101,70,117,110,99,71,32,102,101,70,117,110,99,82,32,102,101,71,97,117,115,115,105,97,110,66,108,117,114,32,102,101,73,109,97,103,101,32,102,101,77,101,114,103,101,32,102,101,77,101,114,103,101,78,111,100,101,32,102,101,77,111,114,112,104,111,108,111,103,121,32,102,101,79,102,102,115,101,116,32,102,101,80,111,105,110,116,76,105,103,104,116,32,102,101,83,112,101,99,117,108,97,114,76,105,103,104,116,105,110,103,32,102,101,83,112,111,116,76,105,103,104,116,32,102,101,84,105,108,101,32,102,101,84,117,114,98,117,108,101,110,99,101,32,102,111,114,101,105,103,110,79,98,106,101,99,116,32,103,108,121,112,104,82,101,102,32,108,105,110,101,97,114,71,114,97,100,105,101,110,116,32,114,97,100,105,97,108,71,114,97,100,105,101,110,116,32,116,101,120,116,80,97,116,104]
abbrev aXq:List UInt8:=[97,100,100,114,101,115,115,32,97,114,116,105,99,108,101,32,97,115,105,100,101,32,98,108,111,99,107,113,117,111,116,101,32,99,101,110,116,101,114,32,100,101,116,97,105,108,115,32,100,105,97,108,111,103,32,100,105,114,32,100,105,118,32,100,108,32,102,105,101,108,100,115,101,116,32,102,105,103,99,97,112,116,105,111,110,32,102,105,103,117,114,101,32,102,111,111,116,101,114,32,104,101,97,100,101,114,32,104,103,114,111,117,112,32,109,97,105,110,32,109,101,110,117,32,110,97,118,32,111,108,32,115,101,97,114,99,104,32,115,101,99,116,105,111,110,32,115,117,109,109,97,114,121,32,117,108]
abbrev aXr:List UInt8:=[98,97,115,101,32,98,97,115,101,102,111,110,116,32,98,103,115,111,117,110,100,32,108,105,110,107,32,109,101,116,97,32,110,111,102,114,97,109,101,115,32,115,99,114,105,112,116,32,115,116,121,108,101,32,116,101,109,112,108,97,116,101,32,116,105,116,108,101]
abbrev aXs:List UInt8:=[116,101,109,112,108,97,116,101]
abbrev aXt:List UInt8:=[97,100,100,114,101,115,115,32,97,114,116,105,99,108,101,32,97,115,105,100,101,32,98,108,111,99,107,113,117,111,116,101,32,99,101,110,116,101,114,32,100,101,116,97,105,108,115,32,100,105,97,108,111,103,32,100,105,114,32,100,105,118,32,100,108,32,102,105,101,108,100,115,101,116,32,102,105,103,99,97,112,116,105,111,110,32,102,105,103,117,114,101,32,102,111,111,116,101,114,32,104,101,97,100,101,114,32,104,103,114,111,117,112,32,109,97,105,110,32,109,101,110,117,32,110,97,118,32,111,108,32,112,32,115,101,97,114,99,104,32,115,101,99,116,105,111,110,32,115,117,109,109,97,114,121,32,117,108]
abbrev aXu:List UInt8:=[99,97,112,116,105,111,110,32,99,111,108,32,99,111,108,103,114,111,117,112,32,102,114,97,109,101,32,104,101,97,100,32,116,98,111,100,121,32,116,100,32,116,102,111,111,116,32,116,104,32,116,104,101,97,100,32,116,114]
abbrev aXv:List UInt8:=[104,116,109,108]
abbrev aXw:List UInt8:=[98,117,116,116,111,110]
abbrev aXx:List UInt8:=[120,108,105,110,107,58,97,99,116,117,97,116,101,32,120,108,105,110,107,58,97,114,99,114,111,108,101,32,120,108,105,110,107,58,104,114,101,102,32,120,108,105,110,107,58,114,111,108,101,32,120,108,105,110,107,58,115,104,111,119,32,120,108,105,110,107,58,116,105,116,108,101,32,120,108,105,110,107,58,116,121,112,101]
abbrev aXy:List UInt8:=[102,114,97,109,101,115,101,116]
abbrev aXz:List UInt8:=[98,32,98,105,103,32,99,111,100,101,32,101,109,32,102,111,110,116,32,105,32,115,32,115,109,97,108,108,32,115,116,114,105,107,101,32,115,116,114,111,110,103,32,116,116,32,117]
abbrev aXA:List UInt8:=[116,97,98,108,101]
abbrev aXB:List UInt8:=[97,112,112,108,101,116,32,99,97,112,116,105,111,110,32,104,116,109,108,32,109,97,114,113,117,101,101,32,111,98,106,101,99,116,32,116,97,98,108,101,32,116,100,32,116,101,109,112,108,97,116,101,32,116,104]
abbrev aXC:List UInt8:=[100,100,32,100,116,32,108,105,32,111,112,116,103,114,111,117,112,32,111,112,116,105,111,110,32,112,32,114,98,32,114,112,32,114,116,32,114,116,99]
abbrev aXD:List UInt8:=[98,111,100,121]
abbrev aXE:List UInt8:=[110,111,98,114]
abbrev aXF:List UInt8:=[112,108,97,105,110,116,101,120,116]
abbrev aXG:List UInt8:=[116,101,120,116,97,114,101,97]
abbrev aXH:List UInt8:=[105,109,97,103,101]
abbrev aXI:List UInt8:=[99,97,112,116,105,111,110,32,99,111,108,103,114,111,117,112,32,116,98,111,100,121,32,116,100,32,116,102,111,111,116,32,116,104,32,116,104,101,97,100,32,116,114]
abbrev aXJ:List UInt8:=[111,112,116,103,114,111,117,112,32,111,112,116,105,111,110]
abbrev aXK:List UInt8:=[97,112,112,108,101,116,32,109,97,114,113,117,101,101,32,111,98,106,101,99,116]
abbrev aXL:List UInt8:=[104,49,32,104,50,32,104,51,32,104,52,32,104,53,32,104,54]
abbrev aXM:List UInt8:=[98,97,115,101,32,98,97,115,101,102,111,110,116,32,98,103,115,111,117,110,100,32,108,105,110,107,32,109,101,116,97]
abbrev aXN:List UInt8:=[115,101,108,101,99,116]
abbrev aXO:List UInt8:=[97,114,101,97,32,98,114,32,101,109,98,101,100,32,105,109,103,32,105,109,97,103,101,32,107,101,121,103,101,110,32,119,98,114,32,105,110,112,117,116,32,112,97,114,97,109,32,115,111,117,114,99,101,32,116,114,97,99,107,32,104,114]
abbrev aXP:List UInt8:=[105,110,112,117,116]
abbrev aXQ:List UInt8:=[97,110,110,111,116,97,116,105,111,110,45,120,109,108]
abbrev aXR:List UInt8:=[111,112,116,105,111,110]
abbrev aXS:List UInt8:=[110,111,115,99,114,105,112,116]
abbrev aXT:List UInt8:=[116,105,116,108,101]
abbrev aXU:List UInt8:=[116,97,98,108,101,32,116,98,111,100,121,32,116,102,111,111,116,32,116,104,101,97,100,32,116,114]
abbrev aXV:List UInt8:=[100,101,115,99,32,102,111,114,101,105,103,110,79,98,106,101,99,116,32,116,105,116,108,101]
abbrev aXW:List UInt8:=[105,102,114,97,109,101]
abbrev aXX:List UInt8:=[102,111,114,109]
abbrev aXY:List UInt8:=[104,101,97,100]
abbrev aXZ:List UInt8:=[115,99,114,105,112,116]
abbrev aX0:List UInt8:=[97,114,101,97,32,98,114,32,101,109,98,101,100,32,105,109,103,32,107,101,121,103,101,110,32,119,98,114]
abbrev aX1:List UInt8:=[110,111,101,109,98,101,100]
abbrev aX2:List UInt8:=[116,101,120,116,97,114,101,97,32,120,109,112,32,105,102,114,97,109,101,32,110,111,101,109,98,101,100,32,112,108,97,105,110,116,101,120,116]
abbrev aX3:List UInt8:=[114,117,98,121]
abbrev aX4:List UInt8:=[99,97,112,116,105,111,110]
abbrev aX5:List UInt8:=[97,112,112,108,105,99,97,116,105,111,110,47,120,104,116,109,108,43,120,109,108]
abbrev aX6:List UInt8:=[120,109,108,110,115,58,120,108,105,110,107]
abbrev aX7:List UInt8:=[110,111,102,114,97,109,101,115,32,115,116,121,108,101]
abbrev aX8:List UInt8:=[112,114,101,32,108,105,115,116,105,110,103]
abbrev aX9:List UInt8:=[104,116,109,108,32,116,97,98,108,101,32,116,101,109,112,108,97,116,101]
abbrev aYa:List UInt8:=[120,109,112]
abbrev aYb:List UInt8:=[102,111,114,101,105,103,110,79,98,106,101,99,116]
abbrev aYc:List UInt8:=[120,108,105,110,107,58,97,114,99,114,111,108,101]
abbrev aYd:List UInt8:=[104,105,100,100,101,110]
abbrev aYe:List UInt8:=[111,112,116,103,114,111,117,112]
abbrev aYf:List UInt8:=[112,97,114,97,109,32,115,111,117,114,99,101,32,116,114,97,99,107]
abbrev aYg:List UInt8:=[120,108,105,110,107,58,97,99,116,117,97,116,101]
abbrev aYh:List UInt8:=[109,105,32,109,110,32,109,111,32,109,115,32,109,116,101,120,116]
abbrev aYi:List UInt8:=[105,109,103]
abbrev aYj:List UInt8:=[104,101,97,100,32,116,101,109,112,108,97,116,101,32,98,111,100,121,32,104,116,109,108,32,98,114]
abbrev aYk:List UInt8:=[99,111,108,103,114,111,117,112]
abbrev aYl:List UInt8:=[120,108,105,110,107,58,116,105,116,108,101]
abbrev aYm:List UInt8:=[116,121,112,101]
abbrev aYn:List UInt8:=[120,109,108,58,115,112,97,99,101]
abbrev aYo:List UInt8:=[116,102,111,111,116]
abbrev aYp:List UInt8:=[120,109,108,110,115]
abbrev aYq:List UInt8:=[116,98,111,100,121]
abbrev aYr:List UInt8:=[116,104,101,97,100]
abbrev aYs:List UInt8:=[120,108,105,110,107,58,104,114,101,102]
abbrev aYt:List UInt8:=[120,108,105,110,107,58,114,111,108,101]
abbrev aYu:List UInt8:=[120,108,105,110,107,58,115,104,111,119]
abbrev aYv:List UInt8:=[120,108,105,110,107,58,116,121,112,101]
abbrev aYw:List UInt8:=[100,101,102,105,110,105,116,105,111,110,117,114,108]
abbrev aYx:List UInt8:=[114,116,99]
abbrev aYy:List UInt8:=[120,109,108,58,108,97,110,103]
abbrev aYz:List UInt8:=[109,97,116,104,32,115,118,103]
abbrev aYA:List UInt8:=[100,101,102,105,110,105,116,105,111,110,85,82,76]
abbrev aYB:List UInt8:=[97,100,100,114,101,115,115]
abbrev aYC:List UInt8:=[104,101,97,100,32,98,111,100,121,32,104,116,109,108,32,98,114]
abbrev aYD:List UInt8:=[100,100,32,100,116]
abbrev aYE:List UInt8:=[109,97,114,113,117,101,101]
abbrev aYF:List UInt8:=[109,97,116,104]
abbrev aYG:List UInt8:=[116,101,120,116,47,104,116,109,108]
abbrev aYH:List UInt8:=[120,108,105,110,107]
abbrev aYI:List UInt8:=[97,100,100,114,101,115,115,32,100,105,118,32,112]
abbrev aYJ:List UInt8:=[97,112,112,108,101,116]
abbrev aYK:List UInt8:=[101,110,99,111,100,105,110,103]
abbrev aYL:List UInt8:=[115,111,117,114,99,101]
abbrev aYM:List UInt8:=[111,98,106,101,99,116]
abbrev aYN:List UInt8:=[114,98,32,114,116,99,32,114,112,32,114,116]
abbrev aYO:List UInt8:=[97,114,99,114,111,108,101]
abbrev aYP:List UInt8:=[97,99,116,117,97,116,101]
abbrev aYQ:List UInt8:=[98,108,111,99,107,113,117,111,116,101]
abbrev aYR:List UInt8:=[102,105,103,99,97,112,116,105,111,110]
abbrev aYS:List UInt8:=[112,97,114,97,109]
abbrev aYT:List UInt8:=[116,114,97,99,107]
abbrev aYU:List UInt8:=[104,116,109,108,32,98,111,100,121]
abbrev aYV:List UInt8:=[114,98,32,114,116,99]
abbrev aYW:List UInt8:=[102,105,101,108,100,115,101,116]
abbrev aYX:List UInt8:=[100,105,118]
abbrev aYY:List UInt8:=[115,118,103]
abbrev aYZ:List UInt8:=[100,101,115,99]
abbrev aY0:List UInt8:=[110,111,102,114,97,109,101,115]
abbrev aY1:List UInt8:=[108,105,32,100,100,32,100,116]
abbrev aY2:List UInt8:=[98,97,115,101,102,111,110,116]
abbrev aY3:List UInt8:=[111,108,32,117,108]
abbrev aY4:List UInt8:=[114,112,32,114,116]
abbrev aY5:List UInt8:=[115,112,97,99,101]
abbrev aZb:List UInt8:=[104,114,101,102]
abbrev aZc:List UInt8:=[114,111,108,101]
abbrev aZd:List UInt8:=[115,104,111,119]
section
variable{p:Prop}
theorem Ab(h:p:=by omega):p:=h
theorem AH(h:p:=by simp):p:=h
theorem Bf(h:p:=by decide):p:=h
theorem Bx(h:p:=by decide +kernel):p:=h
theorem DA(h:p:=by simp only; omega):p:=h
theorem EP(h:p:=by simp; omega):p:=h
theorem Jr(h:p:=by simp[Go.Op.operands]):p:=h
theorem SG(h:p:=by simp[Go.Value.cells,Go.Value.oneCell']):p:=h
end
section
section
namespace Go.Am
abbrev Ai:=List UInt8
inductive Aa where
 |bool (b:Bool)
 |int (k:IntKind) (n:Int)
 |str (s:Ai)
 |ptr (p:Option (Nat×Nat))
 |CH (cells:List Aa)
 |sl (size:Nat) (AD:List (List Aa))
 |slnil
 |GI (size:Nat)
 |CC (id off len size:Nat)
 |map (m:Option Nat)
 |func (fn:Fn) (first captured:List Aa)
 |nilFunc
 |iface (t:TypeId) (v:Aa)
 |nilIface
 |agg (cells:List Aa)
 |tuple (vs:List Aa)
 deriving Inhabited
mutual
def Aa.beq:Aa->Aa->Bool
 | .bool a,.bool b=>a==b
 | .int k a,.int l b=>k==l&&a==b
 | .str a,.str b=>a==b
 | .ptr a,.ptr b=>a==b
 | .CH a,.CH b=>Aa.Tj a b
 | .sl n a,.sl m b=>n==m&&Aa.Tk a b
 | .slnil,.slnil=>zt
 | .GI a,.GI b=>a==b
 | .CC a b c d,.CC a' b' c' e=>a==a'&&b==b'&&c==c'&&d==e
 | .map a,.map b=>a==b
 | .func f a b,.func f' a' b'=>f==f'&&Aa.Tj a a'&&Aa.Tj b b'
 | .nilFunc,.nilFunc=>zt
 | .iface t a,.iface t' a'=>t==t'&&Aa.beq a a'
 | .nilIface,.nilIface=>zt
 | .agg a,.agg b=>Aa.Tj a b
 | .tuple a,.tuple b=>Aa.Tj a b
 |_,_=>zw
def Aa.Tj:List Aa->List Aa->Bool
 |[],[]=>zt
 |a::x,b::y=>Aa.beq a b&&Aa.Tj x y
 |_,_=>zw
def Aa.Tk:List (List Aa)->List (List Aa)->Bool
 |[],[]=>zt
 |a::x,b::y=>Aa.Tj a b&&Aa.Tk x y
 |_,_=>zw
end
def Aa.cells:Aa->List Aa
 | .agg cs=>cs
 | .tuple _=>[]
 |v=>[v]
inductive DG where
 |cells (cs:List Aa)
 |map (es:List (Aa×Aa))
 |CU
 deriving Inhabited
abbrev Ah:=List DG
inductive WQ where
 |copy (size:Nat)
 |clear (size:Nat) (zero:List Aa)
 |og (size:Nat) (lo hi:Bool)
 |v8 (size:Nat)
 |aH4 (t:TypeId)
 |wv (zero:Aa) (ok:Bool)
 |UQ (zero:Aa)
 |gO (zero:Aa)
 |OR
 |Ņ
 |wz
 |Sx (g:Ah->List Aa->Option (Ah×Aa))
def WQ.aH5:WQ->Bool
 | .v8 _| .clear _ _| .OR| .Ņ=>zt
 |_=>zw
inductive EL where
 |undef
 |skip
 |val (v:Aa)
 |P7 (b:Bool)
 |Bu (v:Aa)
 |box (ver:Nat) (cells:List Aa) (Bu:List Nat)
 |FF (s off:Nat)
 deriving Inhabited
abbrev BU:=List EL
def BU.at(U:BU)(s:Nat):EL:=U.getD s .undef
def EL.IF:EL->Option Aa
 | .val v| .Bu v=>zz v
 | .P7 b=>zz (.bool b)
 |_=>zy
inductive FK where
 |b|i|s
 deriving DecidableEq,Inhabited
inductive NK where
 |sl|fn|mp
 deriving DecidableEq,Inhabited
inductive Oc where
 |int (op:BinOp)
 |str (op:BinOp)
 |beq (neg:Bool)
 |geq (neg:Bool) (ks:List FK)
 |peq (neg:Bool)
 |GD (neg:Bool) (k:NK)
 |un (op:UnOp)
 |conv(k:IntKind)
 |pick
 |part (off:Nat) (n:Option Nat)
 |aEi (len size:Nat) (n:Option Nat)
 |bP
 |K8 (off:Nat)
 |EE (size:Nat)
 |VO (len size:Nat)
 |len (isStr:Bool)
 |append (size bytes:Nat)
 |K9 (size:Nat) (isStr lo hi:Bool)
 |ext (i:Nat)
 |J6
 |Dk (size:Nat)
 |GI (size:Nat)
 |EM (zero:List Aa) (places:List (Nat×Nat))
 |Ma (isMax:Bool)
 |Yi
 |s2b
 |i2s
 deriving Inhabited
def P8:Value->Option Aa
 | .bool b=>zz (.bool b)
 | zu k n=>zz (.int k n)
 | .string s=>zz (.str s.data.toList)
 | .pointer zy=>zz (.ptr zy)
 | .slice zy 0 0=>zz .slnil
 | .map zy=>zz (.map zy)
 | .func fn f c=>if f.size=0/\c.size=0 then zz (.func fn [] []) else zy
 | .nilFunc=>zz .nilFunc
 | .nilIface=>zz .nilIface
 |_=>zy
def MG:List Value->Option (List Aa)
 |[]=>zz []
 |v::vs=>match P8 v,MG vs with
  |zz a,zz as=>zz (a::as)
  |_,_=>zy
def Mt:Value->Option Aa
 | .agg cs=>(MG cs.toList).map .agg
 |v=>P8 v
def Ra:Sem Value->Option Value
 | .pure v=>zz v
 |_=>zy
def A0:Nat:=140737488355328
def c_(op:BinOp)(k:IntKind)(a:Int)(l:IntKind)(b:Int):Option Aa:=
 (Ra (binOp op 0 (zu k a) (zu l b))).bind λv=>match v with
  | zu k n=>zz (.int k n)
  | .bool b=>zz (.bool b)
  |_=>zy
def pZ(op:BinOp)(a b:Ai):Option Aa:=
 match op with
 | .add=>if zx a+zx b<=9223372036854775807 then zz (.str (a++b)) else zy
 | .eql=>zz (.bool (a==b))
 | .neq=>zz (.bool (!(a==b)))
 | .lss=>zz (.bool (zh a b))
 | .leq=>zz (.bool (zh a b||a==b))
 | .gtr=>zz (.bool (!(zh a b||a==b)))
 | .geq=>zz (.bool (!(zh a b)))
 |_=>zy
def Mb:FK->Aa->Aa->Option Bool
 | .b,.bool a,.bool b=>zz (a==b)
 | .i,.int k a,.int l b=>if k=l then zz (a==b) else zy
 | .s,.str a,.str b=>zz (a==b)
 |_,_,_=>zy
def Ek:List FK->List Aa->List Aa->Option Bool
 |[],[],[]=>zz zt
 |k::ks,a::x,b::y=>match Mb k a b,Ek ks x y with
  |zz e,zz es=>zz (e&&es)
  |_,_=>zy
 |_,_,_=>zy
def da:Aa->Aa->Option Bool
 | .ptr zy,.ptr b=>zz b.isNone
 | .ptr (zz _),.ptr zy=>zz zw
 | .ptr (zz a),.ptr (zz b)=>if a=b then zz zt else zy
 | .ptr zy,.CH _=>zz zw
 | .CH _,.ptr zy=>zz zw
 |_,_=>zy
def db:NK->Aa->Aa->Option Bool
 | .sl,.slnil,.slnil=>zz zt
 | .sl,.slnil,.sl _ _=>zz zw
 | .sl,.sl _ _,.slnil=>zz zw
 | .sl,.slnil,.GI _=>zz zw
 | .sl,.GI _,.slnil=>zz zw
 | .sl,.slnil,.CC _ _ _ _=>zz zw
 | .sl,.CC _ _ _ _,.slnil=>zz zw
 | .fn,.nilFunc,.nilFunc=>zz zt
 | .fn,.nilFunc,.func _ _ _=>zz zw
 | .fn,.func _ _ _,.nilFunc=>zz zw
 | .mp,.map zy,.map b=>zz b.isNone
 | .mp,.map (zz _),.map zy=>zz zw
 |_,_,_=>zy
def FN(cs:List Aa)(off:Nat):Option Nat->Option Aa
 |zy=>cs[off]?
 |zz n=>if off+n<=zx cs then zz (.agg ((cs.drop off).take n)) else zy
def MM(n:Int)(len:Nat):Option Nat:=if 0<=n/\n<len then zz n.toNat else zy
def FH(n:Int)(top:Nat):Option Nat:=if 0<=n/\n<=top then zz n.toNat else zy
def Ep(lo hi:Bool)(len:Nat)(as:List Aa):Option (Nat×Nat):=
 match lo,hi with
 |zw,zw=>match as with
  |[]=>zz (0,len)
  |_=>zy
 |zw,zt=>match as with
  |[.int _ h]=>(FH h len).map λh=>(0,h)
  |_=>zy
 |zt,zw=>match as with
  |[.int _ l]=>(FH l len).map λl=>(l,len)
  |_=>zy
 |zt,zt=>match as with
  |[.int _ l,.int _ h]=>(FH h len).bind λh=>(FH l h).map λl=>(l,h)
  |_=>zy
def Nz:List (List Aa)->Option Ai
 |[]=>zz []
 |[.int .u8 n]::rs=>(Nz rs).map λl=>n.toNat.toUInt8::l
 |_=>zy
def Cg(s:Ai):List (List Aa):=s.map λb=>[.int .u8 b.toNat]
def D0(size bytes:Nat)(s:Aa)(AD:List (List Aa)):Option Aa:=
 match AD with
 |[]=>match s with
  | .slnil=>zz .slnil
  | .GI z=>if z=size then zz (.GI z) else zy
  | .sl z r=>if z=size then zz (.sl z r) else zy
  |_=>zy
 |AD=>match s with
  | .slnil=>if zx AD*bytes<=A0 then zz (.sl size AD) else zy
  | .GI z=>if z=size/\zx AD*bytes<=A0 then zz (.sl size AD) else zy
  | .sl z r=>if z=size/\(zx r+zx AD)*bytes<=A0 then zz (.sl size (r++AD)) else zy
  |_=>zy
def AQ(cs:List Aa):List ((Nat×Nat)×Aa)->Option (List Aa)
 |[]=>zz cs
 |((off,size),v)::rest=>if 0<size/\zx v.cells=size/\off+size<=zx cs then AQ (cs.take off++v.cells++cs.drop (off+size)) rest else zy
def aCR(k:IntKind)(n:Int):Option Aa:=
 (Ra (Op.unary .xor (zu k n))).bind λv=>match v with
  | zu k n=>zz (.int k n)
  |_=>zy
def aEj:UnOp->Aa->Option Aa
 | .not,.bool b=>zz (.bool (!b))
 | .neg,.int k n=>zz (.int k (k.wrap (0 -n)))
 | .xor,.int k n=>aCR k n
 |_,_=>zy
def Yj(p:Aa)(off:Nat):Option Aa:=
 match p with
 | .CH cs=>zz (.CH (cs.drop off))
 | .ptr (zz (id,o))=>zz (.ptr (zz (id,o+off)))
 |_=>zy
def elemOf(size:Nat)(s:Aa)(i:Int):Option Aa:=
 match s with
 | .sl z AD=>if z=size then(if 0<=i then(AD[i.toNat]?).map .CH else zy) else zy
 | .CC id off len z=>if z=size then(MM i len).map λi=> .ptr (zz (id,off+i*size)) else zy
 |_=>zy
def lenOf(isStr:Bool)(s:Aa):Option Aa:=
 match s with
 | .sl _ AD=>if isStr then zy else zz (.int zl (zx AD))
 | .CC _ _ n _=>if isStr then zy else zz (.int zl n)
 | .slnil=>if isStr then zy else zz (.int zl 0)
 | .GI _=>if isStr then zy else zz (.int zl 0)
 | .str s=>if isStr then zz (.int zl (zx s)) else zy
 |_=>zy
def Ip(size bytes:Nat)(s x:Aa):Option Aa:=
 match x with
 | .slnil=>D0 size bytes s []
 | .GI z=>if z=size then D0 size bytes s [] else zy
 | .sl z AD=>if z=size then D0 size bytes s AD else zy
 | .str x=>if size=1 then D0 size bytes s (Cg x) else zy
 |_=>zy
def KE(size:Nat)(isStr lo hi:Bool)(s:Aa)(as:List Aa):Option Aa:=
 match s with
 | .str s=>if isStr then(Ep lo hi (zx s) as).map λ(l,h)=> .str ((s.take h).drop l) else zy
 | .sl z AD=>if isStr=zw/\z=size then(Ep lo hi (zx AD) as).map λ(l,h)=> .sl z ((AD.take h).drop l) else zy
 | .CC id off n z=>if isStr=zw/\z=size then(Ep lo hi n as).bind λ(l,h)=>if l<n then zz (.CC id (off+l*z) (h-l) z) else zz (.sl z []) else zy
 | .slnil=>if isStr then zy else(Ep lo hi 0 as).map λ_=> .slnil
 |_=>zy
def p8:Aa->Option Aa
 | .ptr (zz p)=>zz (.ptr (zz p))
 | .CH cs=>zz (.CH cs)
 | .func (zm f) a b=>zz (.func (zm f) a b)
 |_=>zy
def Yk:Aa->Option Aa
 | .sl 1 AD=>(Nz AD).map .str
 | .slnil=>zz (.str [])
 |_=>zy
def AA(p:Oc)(args:List Aa):Option Aa:=
 match p with
 | .int op=>match args with
  |[.int k a,.int l b]=>c_ op k a l b
  |_=>zy
 | .str op=>match args with
  |[.str a,.str b]=>pZ op a b
  |_=>zy
 | .beq neg=>match args with
  |[.bool a,.bool b]=>zz (.bool ((a==b) != neg))
  |_=>zy
 | .geq neg ks=>match args with
  |[.agg a,.agg b]=>(Ek ks a b).map λe=> .bool (e != neg)
  |_=>zy
 | .peq neg=>match args with
  |[a,b]=>(da a b).map λe=> .bool (e != neg)
  |_=>zy
 | .GD neg k=>match args with
  |[a,b]=>(db k a b).map λe=> .bool (e != neg)
  |_=>zy
 | .un op=>match args with
  |[v]=>aEj op v
  |_=>zy
 | .conv k=>match args with
  |[.int _ n]=>zz (.int k (k.wrap n))
  |_=>zy
 | .i2s=>match args with
  |[.int _ n]=>zz (.str (Utf8.encode n).data.toList)
  |_=>zy
 | .pick=>match args with
  |[.bool c,a,b]=>zz (if c then a else b)
  |_=>zy
 | .part off n=>match args with
  |[.agg cs]=>FN cs off n
  |_=>zy
 | .aEi len size n=>match args with
  |[.agg cs,.int _ i]=>(MM i len).bind λi=>FN cs (i*size) n
  |_=>zy
 | .bP=>match args with
  |[.str s,.int _ i]=>if 0<=i then(s[i.toNat]?).map λb=> .int .u8 b.toNat else zy
  |_=>zy
 | .K8 off=>match args with
  |[p]=>Yj p off
  |_=>zy
 | .EE size=>match args with
  |[s,.int _ i]=>elemOf size s i
  |_=>zy
 | .VO len size=>match args with
  |[p,.int _ i]=>(MM i len).bind λi=>Yj p (i*size)
  |_=>zy
 | .len isStr=>match args with
  |[s]=>lenOf isStr s
  |_=>zy
 | .append size bytes=>match args with
  |[s,x]=>Ip size bytes s x
  |_=>zy
 | .K9 size isStr lo hi=>match args with
  |s::as=>KE size isStr lo hi s as
  |_=>zy
 | .ext i=>match args with
  |[.tuple vs]=>vs[i]?
  |_=>zy
 | .J6=>match args with
  |[v]=>p8 v
  |_=>zy
 | .Dk size=>if args.all (λa=>zx a.cells==size)&&decide (zx args*size<=16777216) then zz (.sl size (args.map (·.cells))) else zy
 | .GI size=>if args.isEmpty then zz (.GI size) else zy
 | .EM zero places=>if zx places=zx args then(AQ zero (places.zip args)).map .agg else zy
 | .Ma isMax=>match args with
  |[.int k a,.int l b]=>if k=l then zz (.int k (if isMax then(if b>a then b else a) else(if b<a then b else a))) else zy
  |_=>zy
 | .Yi=>match args with
  |[v]=>Yk v
  |_=>zy
 | .s2b=>match args with
  |[.str s]=>if zx s<=A0 then zz (.sl 1 (Cg s)) else zy
  |_=>zy
inductive Dm where
 |normal
 |exit (id:Nat)
 |ret
 deriving DecidableEq,Inhabited
inductive IT where
 |ret (x:Dm) (vs:List Aa)
 |fail
 |op (o:Oc) (args:List Aa) (k:Aa->IT)
 |cells (n:Nat) (v:Aa) (k:List Aa->IT)
 |GJ (c:Aa) (t e:IT)
 |load (n:Option Nat) (p:Aa) (k:Aa->IT)
 |store (n:Nat) (p v:Aa) (k:IT)
 |alloc (n:Nat) (v:Aa) (k:Aa->IT)
 |call (f:FuncId) (args:List Aa) (k:Aa->IT)
 |La (fn:Aa) (args:List Aa) (k:Aa->IT)
 |BM (f:FuncId) (args:List Aa) (k:Aa->IT)
 |loop (key:Nat) (init:List Aa) (body:List Aa->IT) (k:Dm->List Aa->IT)
 |OS (key:Nat) (t:IT) (k:Dm->List Aa->IT)
 |same (a b:Aa) (k:IT)
 |P9 (k:Aa->IT)
 |KX (m key v:Aa) (k:IT)
 |MN (zero:Aa) (ok:Bool) (m key:Aa) (k:Aa->IT)
 |make (size bytes:Nat) (zero:List Aa) (len cap:Aa) (k:Aa->IT)
 |LM (size bytes:Nat) (s x:Aa) (k:Aa->IT)
 |Fz (s:Aa) (k:Aa->IT)
 |P5 (v:Aa) (k:Aa->IT)
 |Qa (off:Nat) (p:Aa) (k:IT)
 |J7 (size bytes:Nat) (s x:Aa) (k:Aa->IT)
 |Ha (size bytes:Nat) (s x:Aa) (k:Aa->IT)
 |mem (o:WQ) (args:List Aa) (k:Aa->IT)
 |dd (f:FuncId) (args:List Aa) (k:Aa->IT)
 deriving Inhabited
def Aa.Nv:Aa->Bool
 | .bool _| .int _ _| .str _=>zt
 |_=>zw
def A5(h:Ah)(n:Option Nat):Aa->Option Aa
 | .CH cs=>FN cs 0 n
 | .ptr (zz (id,off))=>match h[id]? with
  |zz (.cells cs)=>FN cs off n
  |_=>zy
 |_=>zy
def Cy(h:Ah)(n:Nat)(p v:Aa):Option Ah:=
 match p with
 | .ptr (zz (id,off))=>match h[id]? with
  |zz (.cells cs)=>if zx v.cells=n/\off+n<=zx cs then zz (h.set id (.cells (cs.take off++v.cells++cs.drop (off+n)))) else zy
  |_=>zy
 |_=>zy
def Yl(h:Ah)(n:Nat)(v:Aa):Option (Ah×Aa):=
 if zx v.cells=n then zz (h++[.cells v.cells],.ptr (zz (zx h,0))) else zy
def Tl(s:Ai):List (Aa×Aa)->Option (Option Aa)
 |[]=>zz zy
 |(.str t,v)::es=>if s=t then zz (zz v) else Tl s es
 |_=>zy
def Od(s:Ai)(v:Aa):List (Aa×Aa)->Option (List (Aa×Aa))
 |[]=>zz [(.str s,v)]
 |(.str t,v')::es=>if s=t then zz ((.str s,v)::es) else(Od s v es).map λes=>(.str t,v')::es
 |_=>zy
def RV(h:Ah)(m k v:Aa):Option Ah:=
 match m,k with
 | .map (zz id),.str s=>match h[id]? with
  |zz (.map es)=>(Od s v es).map λes=>h.set id (.map es)
  |_=>zy
 |_,_=>zy
def UR(h:Ah)(m k:Aa):Option (Option Aa):=
 match m,k with
 | .map zy,.str _=>zz zy
 | .map (zz id),.str s=>match h[id]? with
  |zz (.map es)=>Tl s es
  |_=>zy
 |_,_=>zy
def Qb(h:Ah)(zero:Aa)(ok:Bool)(m k:Aa):Option Aa:=
 (UR h m k).map λr=>match r with
  |zz v=>if ok then .tuple [v,.bool zt] else v
  |zy=>if ok then .tuple [zero,.bool zw] else zero
def Tm(h:Ah)(size bytes:Nat)(zero:List Aa):Aa->Aa->Option (Ah×Aa)
 | .int zl n,.int zl c=>if 0<=n/\n<=c/\c.toNat*bytes<=A0/\zx zero=size then
  zz (h++[.cells (zg c.toNat zero).flatten],.CC (zx h) 0 n.toNat size) else zy
 |_,_=>zy
def Qc(size:Nat):Aa->Bool
 | .slnil=>zt
 | .GI z=>z==size
 | .sl z []=>z==size
 |_=>zw
def Lj(h:Ah)(size bytes:Nat)(s:Aa):Aa->Option (Ah×Aa)
 | .sl z AD=>if Qc size s then(match AD with
   |[]=>zz (h,s)
   |AD=>if z=size/\zx AD*bytes<=A0 then zz (h++[.cells AD.flatten],.CC (zx h) 0 (zx AD) size) else zy)
  else zy
 | .slnil=>if Qc size s then zz (h,s) else zy
 | .GI z=>if Qc size s&&z==size then zz (h,s) else zy
 |_=>zy
def Jn(h:Ah):Aa->Option (Ah×Aa)
 | .str s=>if zx s<=A0 then zz (h++[.cells (s.map λb=> .int .u8 b.toNat)],.CC (zx h) 0 (zx s) 1) else zy
 |_=>zy
def CD(cs:List Aa)(z:Nat):Nat->Nat->List (List Aa)
 |_,0=>[]
 |off,n+1=>(cs.drop off).take z::CD cs z (off+z) n
section
variable(h:Ah)
def KY:Aa->Option (Ah×Aa)
 | .CC id off n z=>match h[id]? with
  |zz (.cells cs)=>if off+n*z<=zx cs then zz (h.set id .CU,.sl z (CD cs z off n)) else zy
  |_=>zy
 |v=>zz (h,v)
def MO(off:Nat)(p:Aa):Option Ah:=
 match p with
 | .ptr zy=>zz h
 | .ptr (zz (id,o))=>match h[id]? with
  |zz (.cells cs)=>match cs[o+off]? with
   |zz v=>(KY h v).bind λ(h',v')=>match h'[id]? with
    |zz (.cells HJ)=>zz (h'.set id (.cells (HJ.set (o+off) v')))
    |_=>zy
   |zy=>zy
  |_=>zy
 |_=>zy
def Hz(size:Nat):Aa->Option (List (List Aa))
 | .slnil=>zz []
 | .GI z=>if z=size then zz [] else zy
 | .sl z AD=>if z=size then zz AD else zy
 | .str s=>if size=1 then zz (Cg s) else zy
 | .CC id off n z=>if z=size then match h[id]? with
   |zz (.cells cs)=>if off+n*z<=zx cs then zz (CD cs z off n) else zy
   |_=>zy
  else zy
 |_=>zy
def GF(size bytes:Nat)(s x:Aa):Option (Ah×Aa):=
 match Hz h size x with
 |zy=>zy
 |zz []=>match s with
  | .slnil=>zz (h,s)
  | .GI z=>if z=size then zz (h,s) else zy
  | .CC _ _ _ z=>if z=size then zz (h,s) else zy
  |_=>zy
 |zz AD=>match s with
  | .slnil=>if zx AD*bytes<=A0 then zz (h++[.cells AD.flatten],.CC (zx h) 0 (zx AD) size) else zy
  | .GI z=>if z=size/\zx AD*bytes<=A0 then zz (h++[.cells AD.flatten],.CC (zx h) 0 (zx AD) size) else zy
  | .CC id off n z=>match h[id]? with
   |zz (.cells cs)=>if z=size then
     (if off+(n+zx AD)*z<=zx cs then zz (h.set id (.cells (cs.take (off+n*z)++AD.flatten++cs.drop (off+(n+zx AD)*z))),.CC id off (n+zx AD) z)
     else if off=0/\n*z<=zx cs/\(n+zx AD)*bytes<=A0 then zz (h.set id .CU++[.cells (cs.take (n*z)++AD.flatten)],.CC (zx h) 0 (n+zx AD) z) else zy)
    else zy
   |_=>zy
  |_=>zy
def RY(size bytes:Nat)(s x:Aa):Option Aa:=(Hz h size x).bind (D0 size bytes s)
def de(size:Nat)(d x:Aa):Option (Ah×Aa):=
 match Hz h size x with
 |zy=>zy
 |zz AD=>match d with
  | .slnil=>if zx AD=0 then zz (h,.int zl 0) else zy
  | .CC id off n z=>match h[id]? with
   |zz (.cells cs)=>if z=size/\zx AD<=n/\off+n*z<=zx cs then zz (h.set id (.cells (cs.take off++AD.flatten++cs.drop (off+zx AD*z))),.int zl (zx AD)) else zy
   |_=>zy
  |_=>zy
def Ym(size:Nat)(zero:List Aa):Aa->Option (Ah×Aa)
 | .slnil=>zz (h,.bool zt)
 | .CC id off n z=>match h[id]? with
  |zz (.cells cs)=>if z=size/\zx zero=size/\off+n*z<=zx cs then zz (h.set id (.cells (cs.take off++(zg n zero).flatten++cs.drop (off+n*z))),.bool zt) else zy
  |_=>zy
 |_=>zy
def p9(size:Nat)(lo hi:Bool)(s:Aa)(as:List Aa):Option (Ah×Aa):=
 match s with
 | .CC id off n z=>match h[id]? with
  |zz (.cells cs)=>if z=size/\hi=zt/\off<=zx cs then(Ep lo hi ((zx cs-off)/z) as).bind λ(l,r)=>if l<(zx cs-off)/z then zz (h,.CC id (off+l*z) (r-l) z) else zy else zy
  |_=>zy
 |_=>zy
end
def Yn(size:Nat):List Aa->Bool
 |[s,.int _ l,.int _ r,.int _ m]=>match s with
  | .CC _ _ n z=>z=size&&decide (0<=l)&&decide (l<=r)&&decide (r<=m)&&decide (m<=n)
  | .sl z AD=>z=size&&decide (0<=l)&&decide (l<=r)&&decide (r<=m)&&decide (m<=zx AD)
  |_=>zw
 |_=>zw
def Mc(k:Int):List (Aa×Aa)->Nat->Option (Option (Nat×Aa))
 |[],_=>zz zy
 |(.int zl t,v)::es,i=>if k=t then zz (zz (i,v)) else Mc k es (i+1)
 |_,_=>zy
def wA(zero:Aa)(ok:Bool):Option (Nat×Aa)->Aa
 |zz (_,v)=>if ok then .tuple [v,.bool zt] else v
 |zy=>if ok then .tuple [zero,.bool zw] else zero
def df(h:Ah)(zero:Aa)(ok:Bool)(m k:Aa):Option (Ah×Aa):=
 match m,k with
 | .map zy,.int zl _=>zz (h,wA zero ok zy)
 | .map (zz id),.int zl n=>match h[id]? with
  |zz (.map es)=>(Mc n es 0).map λr=>(h,wA zero ok r)
  |_=>zy
 |_,_=>zy
def Xs(h:Ah)(zero m k:Aa):Option (Ah×Aa):=
 match m,k with
 | .map (zz id),.int zl n=>match h[id]? with
  |zz (.map es)=>(Mc n es 0).map λr=>match r with
   |zz (i,v)=>(h,.tuple [v,.int zl i])
   |zy=>(h.set id (.map (es++[(k,zero)])),.tuple [zero,.int zl (zx es)])
  |_=>zy
 |_,_=>zy
def Sy(k:Ai):List (Aa×Aa)->Nat->Option (Option (Nat×Aa))
 |[],_=>zz zy
 |(.str t,v)::es,i=>if k=t then zz (zz (i,v)) else Sy k es (i+1)
 |_,_=>zy
def Xt(h:Ah)(zero m k:Aa):Option (Ah×Aa):=
 match m,k with
 | .map (zz id),.str n=>match h[id]? with
  |zz (.map es)=>(Sy n es 0).map λr=>match r with
   |zz (i,v)=>(h,.tuple [v,.int zl i])
   |zy=>(h.set id (.map (es++[(k,zero)])),.tuple [zero,.int zl (zx es)])
  |_=>zy
 |_,_=>zy
def Tn(h:Ah)(m i v:Aa):Option (Ah×Aa):=
 match m,i with
 | .map (zz id),.int zl n=>match h[id]? with
  |zz (.map es)=>if 0<=n then match es[n.toNat]? with
   |zz (k,_)=>zz (h.set id (.map (es.set n.toNat (k,v))),.bool zt)
   |zy=>zy
   else zy
  |_=>zy
 |_,_=>zy
def w_(h:Ah)(m k v:Aa):Option (Ah×Aa):=
 match m,k with
 | .map (zz id),.int zl n=>match h[id]? with
  |zz (.map es)=>match Mc n es 0 with
   |zz zy=>zz (h.set id (.map (es++[(.int zl n,v)])),.bool zt)
   |_=>zy
  |_=>zy
 |_,_=>zy
def Rb(h:Ah):List Aa->Option (Ah×Aa)
 |[.slnil,.int zl i,.sl 1 [[.int zl x]]]=>if i=0 then zz (h++[.cells [.int zl x]],.CC (zx h) 0 1 1) else zy
 |[.CC id 0 n 1,.int zl i,.sl 1 [[.int zl x]]]=>match h[id]? with
  |zz (.cells cs)=>if 0<=i/\i.toNat<=n/\n<=zx cs/\(n+1)*8<=A0 then zz (h.set id .CU++[.cells (cs.take i.toNat++[.int zl x]++(cs.take n).drop i.toNat)],.CC (zx h) 0 (n+1) 1) else zy
  |_=>zy
 |_=>zy
def EF(o:WQ)(h:Ah)(args:List Aa):Option (Ah×Aa):=
 match o with
 | .copy size=>match args with
  |[d,x]=>de h size d x
  |_=>zy
 | .clear size zero=>match args with
  |[s]=>Ym h size zero s
  |_=>zy
 | .og size lo hi=>match args with
  |s::as=>p9 h size lo hi s as
  |_=>zy
 | .v8 size=>if Yn size args then zz (h,.bool zt) else zy
 | .aH4 t=>match args with
  |[v]=>zz (h,.iface t v)
  |_=>zy
 | .wv zero ok=>match args with
  |[m,k]=>df h zero ok m k
  |_=>zy
 | .UQ zero=>match args with
  |[m,k]=>Xs h zero m k
  |_=>zy
 | .gO zero=>match args with
  |[m,k]=>Xt h zero m k
  |_=>zy
 | .OR=>match args with
  |[m,i,v]=>Tn h m i v
  |_=>zy
 | .Ņ=>match args with
  |[m,k,v]=>w_ h m k v
  |_=>zy
 | .wz=>Rb h args
 | .Sx g=>g h args
def E0(f:FuncId):FuncId:=if f<=99999 then f else f%100000
def Dw:Aa->List Aa->Option (FuncId×List Aa)
 | .func (zm f) first captured,args=>if f<=99999 then zz (f,first++args++captured) else zy
 |_,_=>zy
abbrev Kz:=Dm×List Aa×Ah
def IT.step(fn:FuncId->List Aa->IT)(rec:IT->Ah->Option Kz):IT->Ah->Option Kz
 | .ret x vs,h=>zz (x,vs,h)
 | .fail,_=>zy
 | .op o args k,h=>match AA o args with
  |zz v=>IT.step fn rec (k v) h
  |zy=>zy
 | .cells n v k,h=>if zx v.cells=n then IT.step fn rec (k v.cells) h else zy
 | .GJ c t e,h=>match c with
  | .bool zt=>IT.step fn rec t h
  | .bool zw=>IT.step fn rec e h
  |_=>zy
 | .load n p k,h=>match A5 h n p with
  |zz v=>IT.step fn rec (k v) h
  |zy=>zy
 | .store n p v k,h=>match Cy h n p v with
  |zz h'=>IT.step fn rec k h'
  |zy=>zy
 | .alloc n v k,h=>match Yl h n v with
  |zz (h',p)=>IT.step fn rec (k p) h'
  |zy=>zy
 | .call f args k,h=>match rec (fn f args) h with
  |zz (.ret,[r],h')=>IT.step fn rec (k r) h'
  |_=>zy
 | .La g args k,h=>match Dw g args with
  |zz (f,args)=>match rec (fn f args) h with
   |zz (.ret,[r],h')=>IT.step fn rec (k r) h'
   |_=>zy
  |zy=>zy
 | .BM f args k,h=>if args.all Aa.Nv then match rec (fn f args) [] with
   |zz (.ret,[r],_)=>if r.Nv then IT.step fn rec (k r) h else zy
   |_=>zy
  else zy
 | .loop key init body k,h=>match IT.step fn rec (body init) h with
  |zz (.normal,vs,h')=>rec (.loop key vs body k) h'
  |zz (x,vs,h')=>IT.step fn rec (k x vs) h'
  |zy=>zy
 | .OS _ t k,h=>match IT.step fn rec t h with
  |zz (x,vs,h')=>IT.step fn rec (k x vs) h'
  |zy=>zy
 | .same a b k,h=>if Aa.beq a b then IT.step fn rec k h else zy
 | .P9 k,h=>IT.step fn rec (k (.map (zz (zx h)))) (h++[.map []])
 | .KX m key v k,h=>match RV h m key v with
  |zz h'=>IT.step fn rec k h'
  |zy=>zy
 | .MN zero ok m key k,h=>match Qb h zero ok m key with
  |zz v=>IT.step fn rec (k v) h
  |zy=>zy
 | .make size bytes zero len cap k,h=>match Tm h size bytes zero len cap with
  |zz (h',v)=>IT.step fn rec (k v) h'
  |zy=>zy
 | .LM size bytes s x k,h=>match Lj h size bytes s x with
  |zz (h',v)=>IT.step fn rec (k v) h'
  |zy=>zy
 | .Fz s k,h=>match Jn h s with
  |zz (h',v)=>IT.step fn rec (k v) h'
  |zy=>zy
 | .P5 v k,h=>match KY h v with
  |zz (h',v')=>IT.step fn rec (k v') h'
  |zy=>zy
 | .Qa off p k,h=>match MO h off p with
  |zz h'=>IT.step fn rec k h'
  |zy=>zy
 | .J7 size bytes s x k,h=>match GF h size bytes s x with
  |zz (h',v)=>IT.step fn rec (k v) h'
  |zy=>zy
 | .Ha size bytes s x k,h=>match RY h size bytes s x with
  |zz v=>IT.step fn rec (k v) h
  |zy=>zy
 | .mem o args k,h=>match EF o h args with
  |zz (h',v)=>IT.step fn rec (k v) h'
  |zy=>zy
 | .dd f args k,h=>match rec (fn f args) [] with
  |zz (.ret,[r],_)=>if r.Nv then IT.step fn rec (k r) h else zy
  |_=>zy
def IT.run(fn:FuncId->List Aa->IT):Nat->IT->Ah->Option Kz
 |0=>λ_ _=>zy
 |n+1=>IT.step fn (IT.run fn n)
end Go.Am
end
section
namespace Go.Am
inductive Sh where
 |val
 |Bu
 |box (n:Nat) (Bu:List Nat)
 deriving Inhabited
inductive dg where
 |Qd|heap
 deriving DecidableEq,Inhabited
structure GN where
 P:Program
 aEk:FuncId->Nat->List (Nat×Sh)
 aCS:FuncId->Nat->Option (List (Nat×Sh))
 aCT:FuncId->Nat->Option (List (Nat×Sh))
 kind:FuncId->Nat->dg
 JM:FuncId->Bool
 aCU:FuncId->Bool
 oh:FuncId->Nat->Bool
 Yo:FuncId->Nat->Bool
 xa:FuncId->Bool
 xb:FuncId->List (Nat×Nat)
 HO:Nat->Option (List Aa)
 aEl:FuncId->Option (List Aa->IT)
 alt:FuncId->FuncId->FuncId
 L9:FuncId->Bool
inductive E8 where
 |pure (ws:List (Nat×EL))
 |op (p:Oc) (args:List Aa) (dst:Option Nat) (Bu:Bool) (D5:Option (Nat×Aa))
 |box (n:Nat) (v:Aa) (dst:Nat)
 |closure (fn:Fn) (first captured:List Aa) (froze:List (Nat×List Aa)) (dst:Nat)
 |NY (s off n:Nat) (v:Aa) (Bu:Bool) (D5:Option (Nat×Aa)) (ver:Nat) (cells:List Aa) (owned:List Nat)
 |load (n:Option Nat) (p:Aa) (dst:Option Nat)
 |store (n:Nat) (p v:Aa)
 |alloc (n:Nat) (v:Aa) (dst:Option Nat)
 |call (f:FuncId) (args:List Aa) (dst:Option Nat)
 |La (g:Aa) (args:List Aa) (dst:Option Nat)
 |BM (f:FuncId) (args:List Aa) (dst:Option Nat)
 |P9 (dst:Option Nat)
 |KX (m k v:Aa)
 |MN (zero:Aa) (ok:Bool) (m k:Aa) (dst:Option Nat)
 |make (size bytes:Nat) (zero:List Aa) (len cap:Aa) (dst:Option Nat)
 |LM (size bytes:Nat) (s x:Aa) (dst:Option Nat) (D5:Option (Nat×Aa))
 |J7 (size bytes:Nat) (s x:Aa) (dst:Option Nat)
 |Ha (size bytes:Nat) (s x:Aa) (dst:Option Nat) (D5:Option (Nat×Aa))
 |Fz (s:Aa) (dst:Option Nat)
 |Yi (v:Aa) (dst:Option Nat)
 |mem (o:WQ) (args:List Aa) (dst:Option Nat)
section
variable(P:Program)(t:TypeId)
def B7:Option Nat:=(P.info? t).map (·.size)
def KF:Option Nat:=(P.info? t).map (·.bytes)
def FL:Option (Option Nat):=
 match P.underlying t with
 |zz (.struct _)|zz (.array _ _)=>(B7 P t).map zz
 |zz _=>zz zy
 |zy=>zy
def HA:Option Aa:=((P.info? t).bind (·.zero)).bind Mt
end
def Yp(rec:TypeId->Option (List FK)):List Field->Nat->Option (List FK)
 |[],_=>zz []
 |f::fs,off=>if f.name≠ "_"/\f.offset=off then match rec f.type with
   |zz ks=>(Yp rec fs (off+zx ks)).map (ks++·)
   |zy=>zy
  else zy
def Qe(P:Program):Nat->TypeId->Option (List FK)
 |0,_=>zy
 |d+1,t=>
  let one (k:FK):Option (List FK):=if B7 P t=zz 1 then zz [k] else zy
  match P.underlying t with
  |zz .bool=>one .b
  |zz (.int _)=>one .i
  |zz .string=>one .s
  |zz (.struct fs)=>match Yp (Qe P d) fs.toList 0 with
   |zz ks=>if B7 P t=zz (zx ks)/\P.stoodInHeld t=zw then zz ks else zy
   |zy=>zy
  |_=>zy
def I4(P:Program)(s:TypeId)(f:Nat):Option (Nat×Option Nat):=
 match P.underlying s with
 |zz (.struct fs)=>match fs[f]? with
  |zz fd=>match B7 P fd.type,FL P fd.type with
   |zz (_+1),zz sh=>zz (fd.offset,sh)
   |_,_=>zy
  |zy=>zy
 |_=>zy
def Es(C:GN)(U:BU):Operand->Option EL
 | .tmp t=>zz (U.at t)
 | .const (.bool b)=>zz (.P7 b)
 | .const (.slice zy 0 0)=>zz (.Bu .slnil)
 | .const v=>(Mt v).map .val
 | .global g=>(C.HO g).map λcs=> .val (.CH cs)
 | .func f=>zz (.val (.func (zm f) [] []))
def Ft(C:GN)(U:BU)(x:Operand):Option Aa:=(Es C U x).bind EL.IF
def BC(C:GN)(U:BU):List Operand->Option (List Aa)
 |[]=>zz []
 |x::xs=>match Ft C U x,BC C U xs with
  |zz v,zz vs=>zz (v::vs)
  |_,_=>zy
def xc(ops:List Oper)(d:Nat):Bool:=
 ops.any λo=>match o.op with
  | .call c=>(match c.callee with| .builtin .append=>zt|_=>zw)&&(match(c.args[0]?:Option Operand) with|zz (.tmp t)=>t==d|_=>zw)
  |_=>zw
def I5:EL->Option EL
 | .val v=>zz (.val v)
 | .P7 b=>zz (.P7 b)
 | .Bu v=>zz (.val v)
 | .FF s o=>zz (.FF s o)
 |_=>zy
def To(x:Operand)(v:Aa):List (Nat×EL):=
 match x with
 | .tmp s=>[(s,.val v)]
 |_=>[]
def Lk(C:GN)(U:BU)(x:Operand)(d:Nat)(take:Bool):Option E8:=
 match x,Es C U x with
 | .tmp s,zz (.box _ _ _)=>zz (.pure [(d,.FF s 0)])
 | .const _,zz sl=>zz (.pure [(d,sl)])
 |x,zz (.Bu v)=>if take then zz (.pure (To x v++[(d,.Bu v)])) else(I5 (.Bu v)).map λs=> .pure [(d,s)]
 |_,zz s=>(I5 s).map λs=> .pure [(d,s)]
 |_,zy=>zy
def Yq(cs:List Aa):List Nat:=(zk (zx cs)).filter λi=>match cs.getD i .nilIface with| .slnil=>zt|_=>zw
def NZ(U:BU)(ds:List Nat):Bool:=U.all λs=>match s with| .FF s _=> !ds.contains s|_=>zt
def BU.drop(U:BU)(ds:List Nat):BU:=match ds with|[]=>U|ds=>U.map λs=>match s with| .FF s o=>if ds.contains s then .undef else .FF s o|s=>s
def VP(C:GN)(fid:FuncId)(t:TypeId)(v:Aa)(d:Nat):Option E8:=
 match B7 C.P t with
 |zy=>zy
 |zz n=>if n=0 then zy else match C.kind fid d with
  | .Qd=>zz (.box n v d)
  | .heap=>zz (.alloc n v (zz d))
inductive aEm where
 |Qd (s off ver:Nat) (cells:List Aa) (Bu:List Nat)
 |ptr (p:Aa)
def GO(C:GN)(U:BU)(x:Operand):Option aEm:=
 match x,Es C U x with
 | .tmp s,zz (.box ver cs ow)=>zz (.Qd s 0 ver cs ow)
 |_,zz (.FF s o)=>match U.at s with
  | .box ver cs ow=>zz (.Qd s o ver cs ow)
  |_=>zy
 |_,zz s=>s.IF.map .ptr
 |_,zy=>zy
def Dx(U:BU):Operand->Option (Nat×Aa)
 | .tmp s=>match U.at s with
  | .Bu v=>zz (s,v)
  |_=>zy
 |_=>zy
def LN(C:GN)(U:BU)(x:Operand):Bool:=match Es C U x with|zz (.Bu _)=>zt|_=>zw
def Md(C:GN)(U:BU)(t:TypeId)(x:Operand)(d:Nat)(take:Bool):Option E8:=
 match FL C.P t,GO C U x with
 |zz n,zz (.ptr p)=>zz (.load n p (zz d))
 |zz zy,zz (.Qd s o ver cs ow)=>
  if o<zx cs then
   let v:=cs.getD o .nilIface
   if ow.contains o&& !(ow.erase o).contains o&&take then zz (.pure [(s,.box (ver+1) cs (ow.erase o)),(d,.Bu v)])
   else zz (.pure [(d,.val v)])
  else zy
 |zz (zz n),zz (.Qd _ o _ cs _)=>if o+n<=zx cs then zz (.pure [(d,.val (.agg ((cs.drop o).take n)))]) else zy
 |_,_=>zy
def J2(C:GN)(U:BU)(t:TypeId)(x y:Operand):Option E8:=
 match B7 C.P t,FL C.P t,GO C U x,Ft C U y with
 |zz (n+1),_,zz (.ptr p),zz v=>zz (.store (n+1) p v)
 |zz (n+1),zz sh,zz (.Qd s o ver cs ow),zz v=>
  if o+(n+1)<=zx cs then
   let Bu:=sh.isNone&&LN C U y
   zz (.NY s o (n+1) v Bu (if Bu then Dx U y else zy) ver cs ow)
  else zy
 |_,_,_,_=>zy
def US(P:Program)(t:TypeId)(neg:Bool)(u:TypeDesc):Option Oc:=
 match u with
 | .bool=>zz (.beq neg)
 | .struct _=>if P.eqGuardType P.depth t=zw then(Qe P 20 t).map (.geq neg) else zy
 | .pointer e=>if(B7 P e).getD 0=0 then zy else zz (.peq neg)
 | .slice _=>zz (.GD neg .sl)
 | .func _ _ _=>zz (.GD neg .fn)
 | .map _ _=>zz (.GD neg .mp)
 |_=>zy
def Rc(P:Program)(op:BinOp)(t:TypeId):Option Oc:=
 match P.underlying t with
 |zz (.int _)=>zz (.int op)
 |zz .string=>zz (.str op)
 |zz u=>match op with
  | .eql=>US P t zw u
  | .neq=>US P t zt u
  |_=>zy
 |zy=>zy
def UT(p:Oc)(dst:Option Nat):Option (List Aa)->Option E8
 |zz args=>zz (.op p args dst zw zy)
 |zy=>zy
def KG(P:Program)(t:TypeId):List (Nat×Operand)->Option (List (Nat×Nat))
 |[]=>zz []
 |(i,_)::rest=>match P.underlying t with
  |zz (.struct fs)=>match fs[i]? with
   |zz f=>match B7 P f.type,KG P t rest with
    |zz n,zz r=>zz ((f.offset,n)::r)
    |_,_=>zy
   |zy=>zy
  |zz (.array len e)=>if i<len then match B7 P e,KG P t rest with
    |zz n,zz r=>zz ((i*n,n)::r)
    |_,_=>zy
   else zy
  |_=>zy
def MP(P:Program)(t:TypeId):Bool:=
 match P.info? t with
 |zz i=>match i.zero with
  |zz z=>z.cells.size==i.size
  |zy=>zw
 |zy=>zw
def Xu(P:Program)(t:TypeId):Bool:=
 match P.underlying t with
 |zz (.struct fs)=>fs.toList.all λf=>(B7 P f.type).isSome
 |zz (.array _ e)=>(B7 P e).isSome
 |_=>zw
def UU(o:WQ)(dst:Option Nat):Option (List Aa)->Option E8
 |zz args=>zz (.mem o args dst)
 |zy=>zy
def SA(C:GN)(fid:FuncId)(U:BU)(c:Call)(dst:Option Nat):Option E8:=
 match c.callee with
 | .builtin .len=>match c.argTypes[0]? with
  |zz t=>match C.P.underlying t with
   |zz .string=>UT (.len zt) dst (BC C U c.args.toList)
   |zz (.slice _)=>UT (.len zw) dst (BC C U c.args.toList)
   |_=>zy
  |zy=>zy
 | .builtin .append=>match c.argTypes[0]?,c.argTypes[1]?,c.args.toList with
  |zz t,zz t',[s,x]=>match C.P.underlying t,C.P.underlying t' with
   |zz (.slice e),zz (.slice _)|zz (.slice e),zz .string=>match B7 C.P e,KF C.P e with
    |zz (n+1),zz (b+1)=>if MP C.P e then match BC C U [s,x] with
      |zz [v,u]=>if LN C U s then
        (if(dst.map (C.oh fid)).getD zw then zz (.LM (n+1) (b+1) v u dst (Dx U s))
        else if(dst.map (C.Yo fid)).getD zw then zz (.Ha (n+1) (b+1) v u dst (Dx U s))
        else zz (.op (.append (n+1) (b+1)) [v,u] dst zt (Dx U s)))
       else if(dst.map (C.oh fid)).getD zw then zz (.J7 (n+1) (b+1) v u dst) else zy
      |_=>zy
     else zy
    |_,_=>zy
   |_,_=>zy
  |_,_,_=>zy
 | .builtin .copy=>match c.argTypes[0]?,c.argTypes[1]?,c.args.toList with
  |zz t,zz t',[s,x]=>match C.P.underlying t,C.P.underlying t' with
   |zz (.slice e),zz (.slice _)|zz (.slice e),zz .string=>match B7 C.P e with
    |zz (n+1)=>UU (.copy (n+1)) dst (BC C U [s,x])
    |_=>zy
   |_,_=>zy
  |_,_,_=>zy
 | .builtin .clear=>match c.argTypes[0]?,c.args.toList with
  |zz t,[s]=>match C.P.underlying t with
   |zz (.slice e)=>match B7 C.P e,HA C.P e with
    |zz (n+1),zz z=>UU (.clear (n+1) z.cells) dst (BC C U [s])
    |_,_=>zy
   |_=>zy
  |_,_=>zy
 | .builtin .max=>if c.args.size=2 then UT (.Ma zt) dst (BC C U c.args.toList) else zy
 | .builtin .min=>if c.args.size=2 then UT (.Ma zw) dst (BC C U c.args.toList) else zy
 | .value (.func f)=>if C.L9 f then(match c.args.toList with
  |[s,i,v]=>if LN C U v then UU .wz dst (BC C U [s,i,v]) else zy
  |_=>zy) else if E0 (C.alt fid f)=f then(BC C U c.args.toList).map λargs=>if C.aCU (C.alt fid f) then .BM (C.alt fid f) args dst else .call (C.alt fid f) args dst else zy
 | .value g=>match Ft C U g,BC C U c.args.toList with
  |zz g,zz args=>zz (.La g args dst)
  |_,_=>zy
 |_=>zy
def Yr(C:GN)(src dst:TypeId):Option (Option Oc):=
 match C.P.underlying src,C.P.underlying dst with
 |zz (.int _),zz (.int k)=>zz (zz (.conv k))
 |zz (.int _),zz .string=>zz (zz .i2s)
 |zz .string,zz .string=>zz zy
 |zz (.slice e),zz .string=>match C.P.underlying e with
  |zz (.int .u8)=>zz (zz .Yi)
  |_=>zy
 |zz .string,zz (.slice e)=>match C.P.underlying e,B7 C.P e,KF C.P e with
  |zz (.int .u8),zz 1,zz 1=>zz (zz .s2b)
  |_,_,_=>zy
 |_,_=>zy
def GP(C:GN)(U:BU):List Operand->Option (List Aa×List (Nat×List Aa))
 |[]=>zz ([],[])
 |x::xs=>match GP C U xs with
  |zy=>zy
  |zz (vs,a)=>match x,Es C U x with
   | .tmp s,zz (.box _ cs _)=>if(a.map (·.1)).contains s then zy else zz (.CH cs::vs,(s,cs)::a)
   |_,zz sl=>match sl.IF with
    |zz v=>zz (v::vs,a)
    |zy=>zy
   |_,zy=>zy
def GQ(C:GN)(fid:FuncId)(ops:List Oper)(U:BU)(o:Oper):Option E8:=
 match o.op with
 | .move x=>match o.dst with
  |zz d=>Lk C U x d (xc ops d)
  |zy=>zy
 | .assign x=>match o.dst with
  |zz d=>Lk C U x d zt
  |zy=>zy
 | .pick c a b=>match Es C U c,o.dst with
  |zz (.P7 zt),zz d=>Lk C U a d zw
  |zz (.P7 zw),zz d=>Lk C U b d zw
  |_,dst=>UT .pick dst (BC C U [c,a,b])
 | .alloc t=>match o.dst,HA C.P t with
  |zz d,zz z=>match C.kind fid d with
   | .Qd=>if B7 C.P t=zz (zx z.cells)/\z.cells≠[] then zz (.pure [(d,.box 0 z.cells (Yq z.cells))]) else zy
   |_=>VP C fid t z d
  |_,_=>zy
 | .box t x=>match o.dst,Ft C U x with
  |zz d,zz v=>VP C fid t v d
  |_,_=>zy
 | .build t parts=>match HA C.P t,KG C.P t parts.toList with
  |zz z,zz ps=>if Xu C.P t then UT (.EM z.cells ps) o.dst (BC C U (parts.toList.map (·.2))) else zy
  |_,_=>zy
 | .buildSlice t len parts=>match C.P.underlying t with
  |zz (.slice e)=>match B7 C.P e with
   |zz (n+1)=>if parts.toList.map (·.1)=zk len/\MP C.P e=zt then if len=0/\(o.dst.map (C.oh fid)).getD zw=zt then zz (.op (.GI (n+1)) [] o.dst zt zy) else(BC C U (parts.toList.map (·.2))).map λargs=> .op (.Dk (n+1)) args o.dst zt zy else zy
   |_=>zy
  |_=>zy
 | .load t x=>match o.dst with
  |zz d=>Md C U t x d (xc ops d)
  |zy=>zy
 | .store t x y=>match o.dst with
  |zy=>J2 C U t x y
  |zz _=>zy
 | .nilCheck x=>match x,Es C U x,o.dst with
  | .tmp s,zz (.box _ _ _),zz d=>zz (.pure [(d,.FF s 0)])
  |_,zz (.FF s k),zz d=>zz (.pure [(d,.FF s k)])
  |x,_,dst=>UT .J6 dst (BC C U [x])
 | .binOp op t x y _=>match Rc C.P op t with
  |zz p=>UT p o.dst (BC C U [x,y])
  |zy=>zy
 | .unOp op _ x=>UT (.un op) o.dst (BC C U [x])
 | .convert src dst x=>match Yr C src dst with
  |zz (zz .Yi)=>(Ft C U x).map λv=> .Yi v o.dst
  |zz (zz .s2b)=>if(o.dst.map (C.oh fid)).getD zw then(Ft C U x).map λv=> .Fz v o.dst else UT .s2b o.dst (BC C U [x])
  |zz (zz p)=>UT p o.dst (BC C U [x])
  |_=>zy
 | .makeFunc fn first captured=>match o.dst,BC C U first.toList,GP C U captured.toList with
  |zz d,zz a,zz (b,g)=>zz (.closure fn a b g d)
  |_,_,_=>zy
 | .makeMap _ zy=>zz (.P9 o.dst)
 | .makeSlice t l c=>match C.P.underlying t with
  |zz (.slice e)=>match B7 C.P e,KF C.P e,HA C.P e,Ft C U l,Ft C U c with
   |zz (n+1),zz (b+1),zz z,zz l,zz c=>zz (.make (n+1) (b+1) z.cells l c o.dst)
   |_,_,_,_,_=>zy
  |_=>zy
 | .insert t m k v| .mapUpdate t m k v=>match C.P.underlying t with
  |zz (.map kt _)=>match o.dst,C.P.underlying kt,BC C U [m,k,v] with
   |zy,zz .string,zz [m,k,v]=>zz (.KX m k v)
   |zy,zz (.int zl),zz [m,k,v]=>zz (.mem .Ņ [m,k,v] zy)
   |_,_,_=>zy
  |_=>zy
 | .lookup t m k ok=>match C.P.underlying t with
  |zz (.map kt e)=>match C.P.underlying kt,HA C.P e,BC C U [m,k] with
   |zz .string,zz z,zz [m,k]=>zz (.MN z ok m k o.dst)
   |zz (.int zl),zz z,zz [m,k]=>zz (.mem (.wv z ok) [m,k] o.dst)
   |_,_,_=>zy
  |_=>zy
 | .slice t x (zz lo) (zz hi) (zz mx)=>match C.P.underlying t with
  |zz (.slice e)=>match B7 C.P e with
   |zz (n+1)=>UU (.v8 (n+1)) o.dst (BC C U [x,lo,hi,mx])
   |_=>zy
  |_=>zy
 | .makeInterface t x=>match C.P.underlying t with
  |zz (.interface _)=>zy
  |zz _=>UU (.aH4 t) o.dst (BC C U [x])
  |zy=>zy
 | .mapEntry t m k=>match C.P.underlying t with
  |zz (.map kt e)=>match C.P.underlying kt,HA C.P e with
   |zz (.int zl),zz z=>UU (.UQ z) o.dst (BC C U [m,k])
   |zz .string,zz z=>UU (.gO z) o.dst (BC C U [m,k])
   |_,_=>zy
  |_=>zy
 | .entryStore _ m s v=>match o.dst with
  |zy=>UU .OR zy (BC C U [m,s,v])
  |zz _=>zy
 | .slice t x lo hi zy=>match C.P.underlying t with
  |zz .string=>UT (.K9 0 zt lo.isSome hi.isSome) o.dst (BC C U (x::(lo.toList++hi.toList)))
  |zz (.slice e)=>match B7 C.P e with
   |zz (n+1)=>if(o.dst.map (C.oh fid)).getD zw then UU (.og (n+1) lo.isSome hi.isSome) o.dst (BC C U (x::(lo.toList++hi.toList)))
    else UT (.K9 (n+1) zw lo.isSome hi.isSome) o.dst (BC C U (x::(lo.toList++hi.toList)))
   |_=>zy
  |_=>zy
 | .fieldAddr t x f=>match I4 C.P t f,o.dst with
  |zz (off,_),zz d=>match x,Es C U x with
   | .tmp s,zz (.box _ _ _)=>zz (.pure [(d,.FF s off)])
   |_,zz (.FF s k)=>zz (.pure [(d,.FF s (k+off))])
   |x,_=>UT (.K8 off) (zz d) (BC C U [x])
  |_,_=>zy
 | .field t x f=>match I4 C.P t f with
  |zz (off,sh)=>UT (.part off sh) o.dst (BC C U [x])
  |zy=>zy
 | .indexAddr t x i=>match C.P.underlying t with
  |zz (.slice e)=>match B7 C.P e with
   |zz (n+1)=>UT (.EE (n+1)) o.dst (BC C U [x,i])
   |_=>zy
  |zz (.array len e)=>match B7 C.P e with
   |zz (n+1)=>if len<=1 then zy else UT (.VO len (n+1)) o.dst (BC C U [x,i])
   |_=>zy
  |_=>zy
 | .index t x i=>match C.P.underlying t with
  |zz .string=>UT .bP o.dst (BC C U [x,i])
  |zz (.array len e)=>match B7 C.P e,FL C.P e with
   |zz (n+1),zz sh=>UT (.aEi len (n+1) sh) o.dst (BC C U [x,i])
   |_,_=>zy
  |_=>zy
 | .extract x i=>UT (.ext i) o.dst (BC C U [x])
 | .call c=>SA C fid U c o.dst
 |_=>zy
def BU.EB(U:BU):List (Nat×EL)->BU
 |[]=>U
 |(s,x)::ws=>BU.EB (U.set s x) ws
def BU.put(U:BU)(dst:Option Nat)(x:EL):BU:=
 match dst with
 |zz d=>U.set d x
 |zy=>U
def BU.D5(U:BU):Option (Nat×Aa)->BU
 |zz (s,v)=>U.set s (.val v)
 |zy=>U
def Ys(n:Nat)(cs:List Aa):List Aa:=(zk n).map λi=>cs.getD i .nilIface
def Yt(cs:List Aa)(off n:Nat)(vs:List Aa):List Aa:=cs.take off++vs++cs.drop (off+n)
def Tp(owned:List Nat)(off n:Nat)(Bu:Bool):List Nat:=
 let rest:=owned.filter λo=> !(off<=o&&o<off+n)
 if Bu then off::rest else rest
def E8.MQ(C:GN)(U:BU)(K:BU->IT):E8->IT
 | .pure ws=>K (U.EB ws)
 | .op p args dst Bu e=> .op p args λv=>K ((U.D5 e).put dst (if Bu then .Bu v else .val v))
 | .box n v d=> .cells n v λcs=>K (U.set d (.box 0 (Ys n cs) []))
 | .closure fn a b h d=>K ((U.EB (h.map λ(s,cs)=>(s,.val (.CH cs)))).set d (.val (.func fn a b)))
 | .NY s off n v Bu e ver cells owned=> .cells n v λvs=>K ((U.D5 e).set s (.box (ver+1) (Yt cells off n (Ys n vs)) (Tp owned off n Bu)))
 | .load n p dst=> .load n p λv=>K (U.put dst (.val v))
 | .store n p v=> .store n p v (K U)
 | .alloc n v dst=> .alloc n v λp=>K (U.put dst (.val p))
 | .call f args dst=> .call f args λr=>K (U.put dst (if C.JM f then .Bu r else .val r))
 | .La g args dst=> .La g args λr=>K (U.put dst (.val r))
 | .BM f args dst=> .BM f args λr=>K (U.put dst (.val r))
 | .P9 dst=> .P9 λm=>K (U.put dst (.val m))
 | .KX m k v=> .KX m k v (K U)
 | .MN z ok m k dst=> .MN z ok m k λv=>K (U.put dst (.val v))
 | .make z b zero l c dst=> .make z b zero l c λv=>K (U.put dst (.val v))
 | .LM z b s x dst e=> .LM z b s x λv=>K ((U.D5 e).put dst (.val v))
 | .J7 z b s x dst=> .J7 z b s x λv=>K (U.put dst (.val v))
 | .Ha z b s x dst e=> .Ha z b s x λv=>K ((U.D5 e).put dst (.Bu v))
 | .Fz s dst=> .Fz s λv=>K (U.put dst (.val v))
 | .Yi v dst=> .P5 v λv=> .op .Yi [v] λu=>K (U.put dst (.val u))
 | .mem o args dst=> .mem o args λv=>K (U.put dst (if o.aH5 then .undef else .val v))
def E8.news:E8->List Nat
 | .pure ws=>ws.filterMap λ(s,x)=>match x with| .box 0 _ _=>zz s|_=>zy
 | .box _ _ d=>[d]
 | .closure _ _ _ a _=>a.map (·.1)
 |_=>[]
inductive aH7 where
 |Oe (run:Bool)
 |ask (wB:Nat) (v:Aa) (want:Bool)
 |bad
def Jo(ops:List Oper)(U:BU)(o:Oper):aH7:=
 match o.guard with
 |zy=> .Oe zt
 |zz (j,want)=>match(ops[j]?).bind (·.dst) with
  |zz s=>match U.at s with
   | .P7 b=> .Oe (b==want)
   | .val v=> .ask s v want
   | .skip=> .Oe zw
   |_=> .bad
  |zy=> .bad
section
variable(C:GN)(fid:FuncId)(ops:List Oper)(U:BU)(o:Oper)(K:BU->IT)
def xd:IT:=
 match GQ C fid ops U o with
 |zz r=>r.MQ C (U.drop r.news) K
 |zy=> .fail
def UW:IT:=
 match Jo ops U o with
 | .Oe zt=>xd C fid ops U o K
 | .Oe zw=>K (U.put o.dst .skip)
 | .ask s v want=>
  let t:=if want then xd C fid ops (U.set s (.P7 zt)) o K else K (BU.put (U.set s (.P7 zt)) o.dst .skip)
  let e:=if want then K (BU.put (U.set s (.P7 zw)) o.dst .skip) else xd C fid ops (U.set s (.P7 zw)) o K
  .GJ v t e
 | .bad=> .fail
end
def UX:FuncId->Bool
 |_=>zw
def UY(C:GN)(U:BU)(o:Oper):List (Nat×List Aa):=
 match o.op with
 | .call c=>(match c.callee with
  | .value (.func f)=>if UX f then(match GP C U c.args.toList with|zz (_,a)=>a|zy=>[]) else[]
  |_=>[])
 |_=>[]
def aEo(C:GN)(U:BU)(o:Oper):BU:=(U.drop ((UY C U o).map (·.1))).EB ((UY C U o).map λ(s,cs)=>(s,.val (.CH cs)))
def dh(C:GN)(fid:FuncId)(ops:List Oper):List Oper->BU->(BU->IT)->IT
 |[],U,K=>K U
 |o::rest,U,K=>UW C fid ops (aEo C U o) o λU=>dh C fid ops rest U K
end Go.Am
end
section
namespace Go.Am
def Oper.WR(o:Oper):List Nat:=o.after.toList.filterMap λe=>if Region.binds .any e then zz e.on else zy
def bit(i:Nat):Nat:=2^i
def LO(Ed:List Nat):List Oper->List Nat
 |[]=>Ed
 |o::rest=>LO (Ed++[(Oper.WR o).foldl (λm e=>m|||bit e|||Ed.getD e 0) 0]) rest
def Yu(ops:List Oper):List Nat:=LO [] ops
def EN(an:List Nat)(i j:Nat):Bool:=(an.getD j 0).testBit i
def aCV(o:Oper):Bool:=
 match o.op with
 | .call c=>(match c.callee with| .builtin .copy| .builtin .clear=>zt| .builtin _=>zw|_=>zt)
 | .store _ _ _| .insert _ _ _ _| .mapUpdate _ _ _ _| .makeMap _ _| .makeSlice _ _ _| .mapEntry _ _ _| .entryStore _ _ _ _=>zt
 |_=>zw
def Yv(all:List Oper)(Ed:List Nat):List Oper->List Nat
 |[]=>Ed
 |o::rest=>Yv all (Ed++[(Oper.WR o).foldl (λm e=>Nat.max m (Ed.getD e 0+(match all[e]? with|zz x=>if aCV x then 1 else 0|zy=>0))) 0]) rest
def ņ(ops:List Oper):List Nat:=
 let st:=Yv ops [] ops
 let idx:=zk (zx ops)
 let Td:=λi=>match ops[i]? with|zz o=>aCV o|zy=>zw
 (zk (zx ops+1)).flatMap λs=>(idx.filter λi=>st.getD i 0==s&& !Td i)++(idx.filter λi=>st.getD i 0==s&&Td i)
structure FP where
 rs:List Nat
 wf:List Nat
 hl:Bool
 Td:Bool
 news:List Nat
 lr:List Nat
 UZ:Bool
 deriving Inhabited
def KH(xs:List Operand):List Nat:=xs.filterMap λ| .tmp t=>zz t|_=>zy
def OT(C:GN)(U:BU)(x:Operand):Option Nat:=
 match GO C U x with
 |zz (.Qd s _ _ _ _)=>zz s
 |_=>zy
def IB(C:GN)(U:BU)(o:Oper):List Nat:=
 match o.op with
 | .load _ x=>(OT C U x).toList
 | .store _ x _=>(OT C U x).toList
 | .makeFunc _ _ captured=>KH captured.toList
 |_=>[]
def E8.wf:E8->List Nat
 | .pure ws=>ws.map (·.1)
 | .op _ _ dst _ a=>dst.toList++(a.map (·.1)).toList
 | .box _ _ d=>[d]
 | .closure _ _ _ b d=>d::b.map (·.1)
 | .NY s _ _ _ _ a _ _ _=>s::(a.map (·.1)).toList
 | .load _ _ dst| .alloc _ _ dst| .call _ _ dst| .La _ _ dst| .BM _ _ dst| .P9 dst| .MN _ _ _ _ dst| .make _ _ _ _ _ dst| .Fz _ dst| .Yi _ dst| .J7 _ _ _ _ dst| .mem _ _ dst=>dst.toList
 | .LM _ _ _ _ dst a| .Ha _ _ _ _ dst a=>dst.toList++(a.map (·.1)).toList
 | .store _ _ _| .KX _ _ _=>[]
def E8.hl:E8->Bool
 | .load _ _ _| .MN _ _ _ _ _=>zt
 |_=>zw
def E8.Td:E8->Bool
 | .store _ _ _| .alloc _ _ _| .call _ _ _| .La _ _ _| .P9 _| .KX _ _ _| .make _ _ _ _ _ _| .LM _ _ _ _ _ _| .Fz _ _| .Yi _ _| .J7 _ _ _ _ _| .Ha _ _ _ _ _ _| .mem _ _ _=>zt
 |_=>zw
def FY(ops:List Oper)(o:Oper):List Nat:=
 match o.guard with
 |zy=>[]
 |zz (j,_)=>((ops[j]?).bind (·.dst)).toList
def Xv(xs:List EL):List Nat:=xs.filterMap λ| .FF t _=>zz t|_=>zy
def E8.di:E8->List Nat
 | .pure ws=>Xv (ws.map (·.2))
 |_=>[]
def E8.UZ(U:BU)(r:E8):Bool:=
 NZ U r.news&&match r with
  | .load _ _ (zz d)=>decide (d<zx U)
  | .load _ _ zy| .MN _ _ _ _ _| .closure _ _ _ (_::_) _=>zw
  |_=>zt
def WS(C:GN)(ops:List Oper)(U:BU)(o:Oper)(r:Option E8):FP:=
 match r with
 |zy=>{rs:=FY ops o,wf:=o.dst.toList,hl:=zw,Td:=zw,news:=[],lr:=Xv (o.dst.toList.map U.at),UZ:=zt}
 |zz r=>{rs:=FY ops o++KH o.op.operands.toList++IB C U o,wf:=r.wf++o.dst.toList,hl:=r.hl,Td:=r.Td,news:=r.news,lr:=Xv ((r.wf++o.dst.toList).map U.at)++r.di,UZ:=r.UZ U}
def Yw(a b:List Nat):Bool:=a.any λx=>b.contains x
def FP.apart(x y:FP):Bool:= !Yw x.wf (y.rs++y.wf)&& !Yw y.wf x.rs&& !Yw x.lr y.news&& !Yw y.lr x.news
def SB(x y:FP):Bool:=x.UZ&&y.UZ&&x.apart y&& !(x.Td&&y.Td)&& !(x.Td&&y.hl)
def Yx(n:Nat)(an:List Nat)(a:List (Nat×FP)):Bool:=
 go a&&(zk n).all (λi=>(a.map (·.1)).contains i)
where
 go:List (Nat×FP)->Bool
  |[]=>zt
  |(i,f)::rest=>rest.all (λ(j,g)=>i != j&& !EN an j i&&(EN an i j||SB f g))&&go rest
structure Lb where
 idx:Nat
 n:Option Nat
 p:Aa
 v:Aa
def Tq(an:List Nat)(i:Nat):List Lb->IT->IT
 |[],t=>t
 |f::fs,t=>if EN an f.idx i then Tq an i fs t else .load f.n f.p λv=> .same f.v v (Tq an i fs t)
def NA(i:Nat)(r:E8)(U:BU)(fl:List Lb):List Lb:=
 match r with
 | .load n p (zz d)=>match U.at d with
  | .val v=>{idx:=i,n,p,v}::fl
  |_=>fl
 |_=>fl
def Tr(ops:List Oper)(i:Nat):Bool:=ops.any λo=>match o.guard with|zz (j,_)=>j==i|zy=>zw
def dj(d:Option Nat)(U:BU)(K:BU->IT):IT:=
 match d with
 |zy=>K U
 |zz d=>match U.at d with
  | .val v=> .GJ v (K (U.set d (.P7 zt))) (K (U.set d (.P7 zw)))
  |_=>K U
def SC(C:GN)(fid:FuncId)(ops:List Oper)(an:List Nat):List Nat->List (Nat×FP)->List Lb->BU->(BU->IT)->IT
 |[],a,_,U,K=>if Yx (zx ops) an a.reverse then K U else .fail
 |i::rest,a,fl,U,K=>
  match ops[i]? with
  |zy=> .fail
  |zz o=>match Jo ops U o with
   | .Oe zt=>match GQ C fid ops U o with
    |zy=> .fail
    |zz r=>r.MQ C (U.drop r.news) λc=>
     let next:=dj (if Tr ops i then o.dst else zy) c λb=>SC C fid ops an rest ((i,WS C ops U o (zz r))::a) (NA i r c fl) b K
     if r.Td then Tq an i fl next else next
   | .Oe zw=>SC C fid ops an rest ((i,WS C ops U o zy)::a) fl (U.put o.dst .skip) K
   |_=> .fail
def EO(ops:List Oper)(o:Oper):List Nat:=
 o.dst.toList++match o.op with
  | .move (.tmp s)=>(match o.dst with|zz d=>if xc ops d then[s] else[]|zy=>[])
  | .assign (.tmp s)=>[s]
  | .store _ _ (.tmp s)=>[s]
  | .call c=>(match c.callee with| .builtin .append=>KH c.args.toList| .value (.func f)=>if UX f then KH c.args.toList else[]|_=>[])
  | .makeFunc _ _ captured=>KH captured.toList
  |_=>[]
def De:Code->List Nat
 | .region _ ops _=>ops.toList.flatMap (EO ops.toList)
 | .seq a b=>De a++De b
 | .cond _ a b=>De a++De b
 | .block _ b=>De b
 | .loop b=>De b
 | .scope b=>De b
 |_=>[]
def Ch:Code->List Nat
 | .region _ ops _=>ops.toList.flatMap (FY ops.toList)
 | .seq a b=>Ch a++Ch b
 | .cond (.tmp s) a b=>s::(Ch a++Ch b)
 | .cond _ a b=>Ch a++Ch b
 | .block _ b=>Ch b
 | .loop b=>Ch b
 | .scope b=>Ch b
 |_=>[]
def BU.clear(U:BU):List Nat->BU
 |[]=>U
 |s::ss=>BU.clear (U.set s .undef) ss
def Ho:Code->Option Nat
 | .region id _ _=>zz id
 | .seq a b=>(Ho a).orElse λ_=>Ho b
 | .cond _ a b=>(Ho a).orElse λ_=>Ho b
 | .block _ b| .loop b| .scope b=>Ho b
 |_=>zy
def Yy(U:BU):List (Nat×Sh)->Option (List Aa)
 |[]=>zz []
 |(s,sh)::l=>
  let v:=match sh,U.at s with
   | .val,x=>x.IF
   | .Bu,.Bu v=>zz v
   | .box n ow,.box _ cs PE=>if zx cs=n/\ow.all (PE.contains ·) then zz (.agg cs) else zy
   |_,_=>zy
  match v,Yy U l with
  |zz v,zz vs=>zz (v::vs)
  |_,_=>zy
def dB:EL->Nat
 | .box ver _ _=>ver
 |_=>0
def J8(vs:List Aa):List (Nat×Sh)->Nat->BU->(BU->IT)->IT
 |[],_,U,K=>K U
 |(s,.val)::l,i,U,K=>J8 vs l (i+1) (U.set s (.val (vs.getD i .nilIface))) K
 |(s,.Bu)::l,i,U,K=>J8 vs l (i+1) (U.set s (.Bu (vs.getD i .nilIface))) K
 |(s,.box n ow)::l,i,U,K=> .cells n (vs.getD i .nilIface) λcs=>J8 vs l (i+1) (U.set s (.box (dB (U.at s)+1) (Ys n cs) ow)) K
def xe(U:BU)(a:BU)(l:List (Nat×Sh)):Bool:=
 (zk (zx U)).all λs=>match U.at s with
  | .box ver _ _=>(l.map (·.1)).contains s||(match a.at s with| .box Hd _ _=>Hd==ver|_=>zw)
  | .FF _ _=>(l.map (·.1)).contains s||(match a.at s with| .FF _ _=>zt|_=>zw)
  |_=>zt
def GR(b:BU)(l:List (Nat×Sh))(x:Dm)(a:BU):IT:=
 if xe b a l then match Yy a l with
  |zz vs=> .ret x vs
  |zy=> .fail
 else .fail
def xf(l:List (Nat×Sh))(ws:List Nat)(U:BU):Bool:=l.all λ(s,_)=>ws.contains s||(match U.at s with| .box _ _ _=>zt|_=>zw)
def gP(ops:List Oper):Bool:=ops.zipIdx.all λ(o,i)=>(Oper.WR o).all λe=>decide (e<i)
def Ts(C:GN)(fid:FuncId)(ops:List Oper)(draw:Bool)(U:BU)(K:BU->IT):IT:=
 if draw then(if gP ops then SC C fid ops (Yu ops) (ņ ops) [] [] U K else .fail) else dh C fid ops ops U K
def gQ(key:Nat)(U:BU)(ws:List Nat)(l:List (Nat×Sh))(t:(Dm->BU->IT)->IT)(K:Dm->BU->IT):IT:=
 let b:=U.clear ws
 if xf l ws U then .OS key (t λx a=>GR b l x a) λx vs=>J8 vs l 0 b λa=>K x a else .fail
def aCW(K:Dm->BU->IT):Dm->BU->IT
 | .normal,_=> .fail
 | .exit i,U=>K (.exit i) U
 | .ret,U=>K .ret U
def GS(C:GN)(fid:FuncId):Code->BU->(Dm->BU->IT)->IT
 | .skip,U,K=>K .normal U
 | .region id ops draw,U,K=>match C.aCT fid id with
  |zy=>Ts C fid ops.toList draw U (K .normal)
  |zz l=>gQ (200000+id) U (ops.toList.flatMap (EO ops.toList)++ops.toList.flatMap (FY ops.toList)) l (λK=>Ts C fid ops.toList draw U (K .normal)) K
 | .seq a b,U,K=>GS C fid a U λx d=>match x with
  | .normal=>GS C fid b d K
  | .exit i=>K (.exit i) d
  | .ret=>K .ret d
 | .cond c a b,U,K=>match c,Es C U c with
  |_,zz (.P7 zt)=>GS C fid a U K
  |_,zz (.P7 zw)=>GS C fid b U K
  | .tmp s,zz (.val v)=>match C.aCS fid s with
   |zy=> .GJ v (GS C fid a (U.set s (.P7 zt)) K) (GS C fid b (U.set s (.P7 zw)) K)
   |zz l=>gQ (100000+s) U (s::(De a++De b++Ch a++Ch b)) l (λK=> .GJ v (GS C fid a (U.set s (.P7 zt)) K) (GS C fid b (U.set s (.P7 zw)) K)) K
  |_,_=> .fail
 | .block id b,U,K=>GS C fid b U λx d=>match x with
  | .normal=>K .normal d
  | .exit i=>if i=id then K .normal d else K (.exit i) d
  | .ret=>K .ret d
 | .loop b,U,K=>
  let l:=C.aEk fid ((Ho b).getD 0)
  let ws:=De b++Ch b
  let f:=U.clear ws
  if xf l ws U then match Yy U l with
   |zy=> .fail
   |zz init=> .loop ((Ho b).getD 0) init (λvs=>J8 vs l 0 f λe=>GS C fid b e λx d=>GR f l x d) λx vs=>J8 vs l 0 f λd=>aCW K x d
  else .fail
 | .exit id,U,K=>K (.exit id) U
 | .ret,U,K=>K .ret U
 | .scope b,U,K=>GS C fid b U K
 | .label _,U,K=>K .normal U
 |_,_,_=> .fail
def Hj(C:GN)(U:BU):List ResultVar->List Aa->(List Aa->IT)->IT
 |[],Ed,K=>K Ed.reverse
 | .tmp t::rs,Ed,K=>match(U.at t).IF with
  |zz v=>Hj C U rs (v::Ed) K
  |zy=> .fail
 | .cell a t::rs,Ed,K=>match FL C.P t,GO C U (.tmp a) with
  |zz zy,zz (.Qd _ o _ cs _)=>if o<zx cs then Hj C U rs (cs.getD o .nilIface::Ed) K else .fail
  |zz (zz n),zz (.Qd _ o _ cs _)=>if o+n<=zx cs then Hj C U rs (.agg ((cs.drop o).take n)::Ed) K else .fail
  |zz n,zz (.ptr p)=> .load n p λv=>Hj C U rs (v::Ed) K
  |_,_=> .fail
def Rd(U:BU):List ResultVar->Bool
 |[.tmp t]=>match U.at t with| .Bu _=>zt|_=>zw
 |_=>zw
def dk(C:GN)(U:BU):List (Nat×Nat)->IT->IT
 |[],t=>t
 |(s,off)::l,t=>match(U.at s).IF with
  |zz p=> .Qa off p (dk C U l t)
  |zy=> .fail
def Qf:List Aa->List Aa->(List Aa->IT)->IT
 |[],Ed,K=>K Ed.reverse
 |v::vs,Ed,K=> .P5 v λv=>Qf vs (v::Ed) K
def VQ:List Aa->IT
 |[v]=> .ret .ret [v]
 |vs=> .ret .ret [.tuple vs]
section
variable(C:GN)(fid:FuncId)
def qA(fn:Func)(U:BU):IT:=
 if C.JM fid&& !Rd U fn.results.toList then .fail
 else dk C U (C.xb fid) (Hj C U fn.results.toList [] λvs=>if C.xa fid then Qf vs [] VQ else VQ vs)
def xg(fn:Func)(args:List Aa):IT:=
 match fn.body with
 |zy=> .fail
 |zz c=>GS C fid c (args.map .val++zg (fn.ntmps-zx args) .undef) λx U=>match x with
  | .normal=>qA C fid fn U
  | .exit _=> .fail
  | .ret=>qA C fid fn U
def aH8(args:List Aa):IT:=
 match C.P.funcs[E0 fid]? with
 |zz fn=>if fn.name== "runtime.NumGoroutine" then .fail else xg C fid fn args
 |zy=> .fail
def B8(args:List Aa):IT:=
 match C.aEl fid with
 |zz p=>p args
 |zy=>aH8 C fid args
end
abbrev g(l:List Aa)(i:Nat):Aa:=l.getD i .nilIface
abbrev I(n:Int):Aa:= .int zl n
abbrev S(s:Ai):Aa:= .str s
abbrev tt:Aa:= .bool zt
abbrev ff:Aa:= .bool zw
abbrev GN.run(C:GN):Nat->IT->Ah->Option Kz:=IT.run (B8 C)
end Go.Am
end
end
section
namespace Go.Am
section
variable{fn:FuncId->List Aa->IT}
def IT.Kk{rec aH9:IT->Ah->Option Kz}(hr:∀t h r,rec t h=zz r->aH9 t h=zz r):
  ∀(t:IT) (h:Ah) (r:Kz),IT.step fn rec t h=zz r->IT.step fn aH9 t h=zz r:=by
 intro t;induction t with
 |ret x vs=>intro h r d;simpa[IT.step] using d
 |fail=>intro h r d;simp[IT.step] at d
 |op o args k ih=>
  intro h r d;simp[IT.step] at d⊢;split at d;.exact ih _ _ _ d
  .cases d
 |cells n v k ih=>
  intro h r d;simp only[IT.step] at d⊢;split at d;next hc=>rw[Af hc];exact ih _ _ _ d
  .cases d
 |GJ c t e i q=>
  intro h r d;simp[IT.step] at d⊢;split at d;.exact i _ _ d
  .exact q _ _ d
  .cases d
 |load n p k ih=>
  intro h r d;simp[IT.step] at d⊢;split at d;.exact ih _ _ _ d
  .cases d
 |store n p v k ih=>
  intro h r d;simp[IT.step] at d⊢;split at d;.exact ih _ _ d
  .cases d
 |alloc n v k ih=>
  intro h r d;simp[IT.step] at d⊢;split at d;.exact ih _ _ _ d
  .cases d
 |call f args k ih=>
  intro h r d;simp[IT.step] at d⊢;split at d;next h1=>rw[hr _ _ _ h1];exact ih _ _ _ d
  .cases d
 |La g args k ih=>
  intro h r d;simp[IT.step] at d⊢;split at d
  .rename_i f a ht;split at d;.rename_i h1;simp[hr _ _ _ h1];exact ih _ _ _ d
   .cases d
  .cases d
 |BM f args k ih=>
  intro h r d;simp only[IT.step] at d⊢;split at d
  .rename_i HB;rw[Af HB];split at d
   .rename_i h1;rw[hr _ _ _ h1];split at d;.rename_i vn;simp[vn,BR];exact ih _ _ _ d
    .cases d
   .cases d
  .cases d
 |loop key init body k l j=>
  intro h r d;simp[IT.step] at d⊢;split at d;next h1=>rw[l _ _ _ h1];exact hr _ _ _ d
  next x vs h1 hne hx=>rw[l _ _ _ hx];cases x<;>first|exact j _ _ _ _ d|cases hne rfl
  .cases d
 |OS key t k i j=>
  intro h r d;simp[IT.step] at d⊢;split at d;next h1=>rw[i _ _ h1];exact j _ _ _ _ d
  .cases d
 |same a b k ih=>
  intro h r d;simp only[IT.step] at d⊢;split at d;next hc=>rw[Af hc];exact ih _ _ d
  .cases d
 |P9 k ih=>intro h r d;simp[IT.step] at d⊢;exact ih _ _ _ d
 |KX m key v k ih=>
  intro h r d;simp[IT.step] at d⊢;split at d;.exact ih _ _ d
  .cases d
 |MN z ok m key k ih=>
  intro h r d;simp[IT.step] at d⊢;split at d;.exact ih _ _ _ d
  .cases d
 |make size bytes zero len cap k ih=>
  intro h r d;simp[IT.step] at d⊢;split at d;.exact ih _ _ _ d
  .cases d
 |LM size bytes s x k ih=>
  intro h r d;simp[IT.step] at d⊢;split at d;.exact ih _ _ _ d
  .cases d
 |Fz s k ih=>
  intro h r d;simp[IT.step] at d⊢;split at d;.exact ih _ _ _ d
  .cases d
 |P5 v k ih=>
  intro h r d;simp[IT.step] at d⊢;split at d;.exact ih _ _ _ d
  .cases d
 |Qa off p k ih=>
  intro h r d;simp[IT.step] at d⊢;split at d;.exact ih _ _ d
  .cases d
 |J7 size bytes s x k ih=>
  intro h r d;simp[IT.step] at d⊢;split at d;.exact ih _ _ _ d
  .cases d
 |Ha size bytes s x k ih=>
  intro h r d;simp[IT.step] at d⊢;split at d;.exact ih _ _ _ d
  .cases d
 |mem o args k ih=>
  intro h r d;simp[IT.step] at d⊢;split at d;.exact ih _ _ _ d
  .cases d
 |dd f args k ih=>
  intro h r d;simp[IT.step] at d⊢;split at d
  .rename_i h1;rw[hr _ _ _ h1];split at d;.rename_i vn;simp[vn,BR];exact ih _ _ _ d
   .cases d
  .cases d
def IT.xh:∀(n:Nat) (t:IT) (h:Ah) (r:Kz),IT.run fn n t h=zz r->IT.run fn (n+1) t h=zz r:=by
 intro n;induction n with
 |zero=>intro t h r a;simp[IT.run] at a
 |succ n ih=>intro t h r a;exact IT.Kk (λt h r=>ih t h r) t h r a
def IT.IG{n m:Nat}(hnm:n<=m){t:IT}{h:Ah}{r:Kz}(a:IT.run fn n t h=zz r):IT.run fn m t h=zz r:=by
 induction hnm with
 |refl=>exact a
 |step _ ih=>exact IT.xh _ _ _ _ ih
end
abbrev HC:=Dm->List Aa->Ah->Prop
def W(C:GN)(t:IT)(Q:HC)(h:Ah):Prop:=∃n x vs h',C.run n t h=zz (x,vs,h')/\Q x vs h'
section
variable{C:GN}{Q:HC}{h:Ah}
def W.mono{t:IT}{Q':HC}(hw:W C t Q h)(hq:∀x vs h',Q x vs h'->Q' x vs h'):W C t Q' h:=
 let⟨n,x,vs,h',hr,q⟩:=hw;⟨n,x,vs,h',hr,hq _ _ _ q⟩
def xi{x:Dm}{vs:List Aa}(hq:Q x vs h):W C (.ret x vs) Q h:=⟨1,x,vs,h,rfl,hq⟩
def C7{t:IT}(a:∃n x vs h',IT.step (B8 C) (C.run n) t h=zz (x,vs,h')/\Q x vs h'):W C t Q h:=
 let⟨n,x,vs,h',hr,q⟩:=a;⟨n+1,x,vs,h',hr,q⟩
def W.succ{t:IT}(a:W C t Q h):∃n x vs h',IT.step (B8 C) (C.run n) t h=zz (x,vs,h')/\Q x vs h':=by
 let⟨n,x,vs,h',hr,q⟩:=a;cases n with
 |zero=>simp[GN.run,IT.run] at hr
 |succ n=>exact⟨n,x,vs,h',hr,q⟩
def aIa{o:Oc}{args:List Aa}{k:Aa->IT}{v:Aa}(hv:AA o args=zz v)(hw:W C (k v) Q h):W C (.op o args k) Q h:=by let⟨n,x,vs,h',hr,q⟩:=hw.succ;exact C7 ⟨n,x,vs,h',by simp[IT.step,hv];exact hr,q⟩
def dr{n:Nat}{v:Aa}{k:List Aa->IT}(hv:zx v.cells=n)(hw:W C (k v.cells) Q h):W C (.cells n v k) Q h:=by let⟨m,x,vs,h',hr,q⟩:=hw.succ;exact C7 ⟨m,x,vs,h',by simp[IT.step,hv,BR];exact hr,q⟩
def du{b:Bool}{t e:IT}(ht:b=zt->W C t Q h)(he:b=zw->W C e Q h):W C (.GJ (.bool b) t e) Q h:=by
 cases b with
 |true=>let⟨m,x,vs,h',hr,q⟩:=(ht rfl).succ;exact C7 ⟨m,x,vs,h',by simp[IT.step];exact hr,q⟩
 |false=>let⟨m,x,vs,h',hr,q⟩:=(he rfl).succ;exact C7 ⟨m,x,vs,h',by simp[IT.step];exact hr,q⟩
def xj{n:Option Nat}{p v:Aa}{k:Aa->IT}(hv:A5 h n p=zz v)(hw:W C (k v) Q h):W C (.load n p k) Q h:=by let⟨m,x,vs,h',hr,q⟩:=hw.succ;exact C7 ⟨m,x,vs,h',by simp[IT.step,hv];exact hr,q⟩
def dv{n:Nat}{p v:Aa}{k:IT}{h1:Ah}(hv:Cy h n p v=zz h1)(hw:W C k Q h1):W C (.store n p v k) Q h:=by let⟨m,x,vs,h',hr,q⟩:=hw.succ;exact C7 ⟨m,x,vs,h',by simp[IT.step,hv];exact hr,q⟩
def dw{n:Nat}{v:Aa}{k:Aa->IT}(hv:zx v.cells=n)(hw:W C (k (.ptr (zz (zx h,0)))) Q (h++[.cells v.cells])):W C (.alloc n v k) Q h:=by let⟨m,x,vs,h',hr,q⟩:=hw.succ;exact C7 ⟨m,x,vs,h',by simp[IT.step,Yl,hv,BR];exact hr,q⟩
def xk{a b:Aa}{k:IT}(hv:Aa.beq a b=zt)(hw:W C k Q h):W C (.same a b k) Q h:=by let⟨m,x,vs,h',hr,q⟩:=hw.succ;exact C7 ⟨m,x,vs,h',by simp[IT.step,hv,BR];exact hr,q⟩
def xl{k:Aa->IT}(hw:W C (k (.map (zz (zx h)))) Q (h++[.map []])):W C (.P9 k) Q h:=by let⟨m,x,vs,h',hr,q⟩:=hw.succ;exact C7 ⟨m,x,vs,h',by simp[IT.step];exact hr,q⟩
def xm{m key v:Aa}{k:IT}{h1:Ah}(hv:RV h m key v=zz h1)(hw:W C k Q h1):W C (.KX m key v k) Q h:=by let⟨n,x,vs,h',hr,q⟩:=hw.succ;exact C7 ⟨n,x,vs,h',by simp[IT.step,hv];exact hr,q⟩
def xn{z:Aa}{ok:Bool}{m key v:Aa}{k:Aa->IT}(hv:Qb h z ok m key=zz v)(hw:W C (k v) Q h):W C (.MN z ok m key k) Q h:=by let⟨n,x,vs,h',hr,q⟩:=hw.succ;exact C7 ⟨n,x,vs,h',by simp[IT.step,hv];exact hr,q⟩
def wC{size bytes:Nat}{zero:List Aa}{len cap v:Aa}{k:Aa->IT}{h1:Ah}(hv:Tm h size bytes zero len cap=zz (h1,v))(hw:W C (k v) Q h1):W C (.make size bytes zero len cap k) Q h:=by let⟨n,x,vs,h',hr,q⟩:=hw.succ;exact C7 ⟨n,x,vs,h',by simp[IT.step,hv];exact hr,q⟩
def dx{size bytes:Nat}{s x v:Aa}{k:Aa->IT}{h1:Ah}(hv:Lj h size bytes s x=zz (h1,v))(hw:W C (k v) Q h1):W C (.LM size bytes s x k) Q h:=by let⟨n,x,vs,h',hr,q⟩:=hw.succ;exact C7 ⟨n,x,vs,h',by simp[IT.step,hv];exact hr,q⟩
def Yz{s v:Aa}{k:Aa->IT}{h1:Ah}(hv:Jn h s=zz (h1,v))(hw:W C (k v) Q h1):W C (.Fz s k) Q h:=by let⟨n,x,vs,h',hr,q⟩:=hw.succ;exact C7 ⟨n,x,vs,h',by simp[IT.step,hv];exact hr,q⟩
def aCX{u v:Aa}{k:Aa->IT}{h1:Ah}(hv:KY h u=zz (h1,v))(hw:W C (k v) Q h1):W C (.P5 u k) Q h:=by let⟨n,x,vs,h',hr,q⟩:=hw.succ;exact C7 ⟨n,x,vs,h',by simp[IT.step,hv];exact hr,q⟩
def dy{off:Nat}{p:Aa}{k:IT}{h1:Ah}(hv:MO h off p=zz h1)(hw:W C k Q h1):W C (.Qa off p k) Q h:=by let⟨n,x,vs,h',hr,q⟩:=hw.succ;exact C7 ⟨n,x,vs,h',by simp[IT.step,hv];exact hr,q⟩
section
variable{size bytes:Nat}{s x v:Aa}{k:Aa->IT}
def xo{h1:Ah}(hv:GF h size bytes s x=zz (h1,v))(hw:W C (k v) Q h1):W C (.J7 size bytes s x k) Q h:=by let⟨n,x,vs,h',hr,q⟩:=hw.succ;exact C7 ⟨n,x,vs,h',by simp[IT.step,hv];exact hr,q⟩
def dD(hv:RY h size bytes s x=zz v)(hw:W C (k v) Q h):W C (.Ha size bytes s x k) Q h:=by let⟨n,x,vs,h',hr,q⟩:=hw.succ;exact C7 ⟨n,x,vs,h',by simp[IT.step,hv];exact hr,q⟩
end
def aCY{o:WQ}{args:List Aa}{v:Aa}{k:Aa->IT}{h1:Ah}(hv:EF o h args=zz (h1,v))(hw:W C (k v) Q h1):W C (.mem o args k) Q h:=by let⟨n,x,vs,h',hr,q⟩:=hw.succ;exact C7 ⟨n,x,vs,h',by simp[IT.step,hv];exact hr,q⟩
def Ev(C:GN)(f:FuncId)(args:List Aa)(h:Ah)(R:Aa->Ah->Prop):Prop:=
 W C (B8 C f args) (λx vs h'=>x= .ret/\∃r,vs=[r]/\R r h') h
section
variable{f:FuncId}{args:List Aa}
def Ev.mono{R R':Aa->Ah->Prop}(hw:Ev C f args h R)(hr:∀r h',R r h'->R' r h'):Ev C f args h R':=
 W.mono hw λ_ _ _ ⟨hx,r,hv,hR⟩=>⟨hx,r,hv,hr _ _ hR⟩
def xq{k:Aa->IT}(hc:Ev C f args h λr h1=>W C (k r) Q h1):W C (.call f args k) Q h:=by let⟨n,x,vs,h1,hr,hx,r,hv,m,x',Iq,h',Gy,q⟩:=hc;subst hx;subst hv;refine C7 ⟨max n m,x',Iq,h',?_,q⟩;have a:=IT.IG (Im n m) hr;have h2:=IT.IG (Bv (HL n m) (FD _)) Gy;simp[IT.step];simp[GN.run] at*;rwa[a]
def Ň{k:Aa->IT}(ha:args.all Aa.Nv=zt)(hc:Ev C f args [] λr _=>r.Nv=zt/\W C (k r) Q h):W C (.BM f args k) Q h:=by let⟨n,x,vs,h1,hr,hx,r,hv,HB,m,x',Iq,h',Gy,q⟩:=hc;subst hx;subst hv;refine C7 ⟨max n m,x',Iq,h',?_,q⟩;have a:=IT.IG (Im n m) hr;have h2:=IT.IG (Bv (HL n m) (FD _)) Gy;simp[IT.step,ha,BR];simp[GN.run] at*;simp[a,HB,BR];exact h2
end
def xr{key:Nat}{t:IT}{k:Dm->List Aa->IT}(hw:W C t (λx vs h1=>W C (k x vs) Q h1) h):W C (.OS key t k) Q h:=by let⟨n,x,vs,h1,hr,a⟩:=hw.succ;let⟨m,x',Iq,h',Gy,q⟩:=a.succ;refine C7 ⟨max n m,x',Iq,h',?_,q⟩;have c:=IT.Kk (λt h r=>IT.IG (fn:=B8 C) (Im n m)) _ _ _ hr;have b:=IT.Kk (λt h r=>IT.IG (fn:=B8 C) (HL n m)) _ _ _ Gy;simp[IT.step];simp[GN.run] at*;rwa[c]
end
end Go.Am
end
