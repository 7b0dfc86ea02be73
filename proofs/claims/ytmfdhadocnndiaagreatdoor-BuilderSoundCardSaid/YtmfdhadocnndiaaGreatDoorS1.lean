/- Lemmas -/
import GoSem.Step
set_option linter.all false
def Ac:=@if_neg
def Ad:=@if_pos
def Ae:=@Nat.le_refl
def Ai:=@List.getElem?_eq_some_iff
def Ak:=@List.getElem?_eq_getElem
def Al:=@List.getElem?_append_left
def An:=@List.mem_append
def Ao:=@List.getElem?_set_ne
def Ap:=@List.length_append
def Aq:=@Array.getElem?_eq_some_iff
def As:=@List.length_map
def Aw:=@List.length_take
def Ay:=@List.getD_eq_getElem?_getD
def Az:=@List.mem_cons
def AA:=@List.append_assoc
def AB:=@List.drop_eq_getElem_cons
def AD:=@not_true_eq_false
def AF:=@not_false_eq_true
def AG:=@false_implies
def AI:=@List.Sublist.refl
def AJ:=@List.getElem?_set_self
def AK:=@true_implies
def AL:=@List.take_succ_eq_append_getElem
def AO:=@List.length_cons
def AP:=@List.getElem_mem
def AS:=@List.mem_of_mem_take
def AT:=@List.take_of_length_le
def AW:=@decide_eq_true
def AZ:=@Nat.zero_le
def A3:=@List.mem_map
def A4:=@decide_eq_false
def A5:=@List.length_drop
def A6:=@List.drop_of_length_le
def A8:=@Nat.lt_or_ge
def Bb:=@Nat.add_zero
def Bc:=@List.mem_of_mem_drop
def Be:=@List.map_cons
def Bf:=@Bool.and_eq_true
def Bi:=@List.append_nil
def Bj:=@Nat.le_trans
def Bp:=@Nat.add_mul
def Bq:=@List.length_nil
def Bs:=@Option.some.injEq
def Bt:=@List.nil_append
def Bw:=@List.mem_append_right
def Bx:=@List.size_toArray
def By:=@Nat.zero_add
def Bz:=@Int.toNat_natCast
def BC:=@List.nodup_cons
def BD:=@List.getElem?_append_right
def BE:=@if_true
def BH:=@List.nodup_append
def BJ:=@List.length_set
def BM:=@eq_self
def BN:=@List.length_singleton
def BO:=@Option.map_some
def BR:=@Array.length_toList
def BU:=@List.mem_filterMap
def BW:=@List.map_append
def BZ:=@Option.bind_some
def B2:=@List.getElem?_take
def B4:=@List.eq_nil_of_length_eq_zero
def B5:=@List.mem_append_left
def B6:=@List.take_length
def B8:=@congrArg
def B9:=@Array.getElem?_eq_getElem
def Ca:=@List.mem_of_getElem?
def Cc:=@List.set_eq_take_append_cons_drop
def Cd:=@List.take_append_drop
def Ce:=@List.set_append_right
def Cg:=@eq_true
def Ch:=@List.getElem?_take_of_lt
def Ci:=@List.getElem?_drop
def Cj:=@List.getElem?_map
def Ck:=@decide_false
def Cl:=@List.cons_append
def Cq:=@List.getElem?_of_mem
def Cr:=@Nat.min_eq_left
def Ct:=@ne_eq
def Cy:=@List.flatten_cons
def CB:=@Nat.succ_pos
def CE:=@Decidable.byContradiction
def CR:=@decide_true
def CU:=@List.mem_filter
def CX:=@Nat.lt_irrefl
def CZ:=@List.getElem?_eq_none
def C2:=@Bool.not_false
def C3:=@List.getElem_map
def C6:=@decide_eq_true_eq
def Da:=@List.take_append_of_le_length
def Db:=@List.mem_or_eq_of_mem_set
def Dd:=@Bool.false_eq_true
def Dq:=@List.all_eq_true
def DB:=@Nat.mul_le_mul_right
def DC:=@Option.some.inj
def DJ:=@List.map_nil
def DK:=@Ne.symm
def DL:=@Nat.sub_self
def DM:=@decide_eq_decide
def DZ:=@Nat.one_mul
def D1:=@List.filterMap_append
def Eb:=@List.drop_drop
def Eg:=@List.mem_singleton
def Eh:=@List.filter_append
def Em:=@Array.replicate_succ
def En:=@Array.replicate_zero
def Ey:=@Bool.not_true
def ED:=@List.take_left
def EE:=@List.take_sublist
def EG:=@List.append_toArray
def EL:=@Nat.le_succ
def EM:=@List.cons.injEq
def EN:=@Nat.zero_lt_one
def EX:=@if_false
def EY:=@List.length_replicate
def E3:=@Nat.le_add_right
def Fm:=@Nat.mul_one
def Fs:=@List.push_toArray
def Fw:=@Array.ext'
def FQ:=@List.length_pos_iff
def FT:=@Array.toList_append
def F3:=@Array.getD_eq_getD_getElem?
def F5:=@List.map_set
def F8:=@List.filter_cons
def Gk:=@List.take_take
def Gv:=@List.extract_eq_take_drop
def GD:=@List.reverse_cons
def GF:=@bne_self_eq_false
def GU:=@List.reverse_append
def GV:=@List.filterMap_cons
def Hi:=@Nat.le_max_right
def Hj:=@Array.eq_empty_of_size_eq_zero
def Hk:=@Nat.le_mul_of_pos_right
def Hl:=@and_true
def Hm:=@List.drop_length
def HF:=@Nat.le_of_eq
def HG:=@List.find?_eq_none
def HH:=@List.reverse_singleton
def HQ:=@Nat.le_max_left
def HR:=@List.take_left'
def HV:=@Prod.mk.injEq
def HW:=@List.map_take
def Ib:=@List.singleton_append
def Ic:=@List.set_getElem_self
def Ip:=@Array.size_append
def IM:=@List.mem_cons_of_mem
def IN:=@List.nodup_nil
def IP:=@true_and
def IQ:=@List.reverse_reverse
def I1:=@List.pairwise_iff_getElem
def Jg:=@List.toList_toArray
def Jh:=@List.flatten_append
def Ji:=@List.replicate_succ
def Jj:=@Int.toNat_of_nonneg
def Jk:=@List.findIdx?_eq_some_iff_findIdx_eq
def JI:=@List.getElem_append_left
def JK:=@List.drop_left'
def JW:=@Nat.lt_of_lt_of_le
def JX:=@Nat.eq_zero_or_pos
def JY:=@Nat.add_sub_cancel
def J1:=@List.getElem?_cons_zero
def J2:=@Option.bind_eq_some_iff
def KF:=@Nat.add_comm
def KG:=@List.drop_zero
def KH:=@List.mem_range
def KI:=@Nat.zero_mul
def Lb:=@Array.getElem?_modify
def Lt:=@Option.getD_some
def Lu:=@Array.toList_map
def Lw:=@List.map_drop
def L3:=@Array.toList_extract
def L4:=@Int.le_refl
def MC:=@List.find?_cons
def MU:=@Nat.ne_of_lt
def ND:=@List.take_zero
def NF:=@Array.ext_getElem?
def NG:=@Int.fdiv_eq_ediv_of_nonneg
def NH:=@List.nodup_iff_pairwise_ne
def Oa:=@Option.filter_eq_some_iff
def Ob:=@List.mem_of_find?_eq_some
def Oc:=@List.getLast?_eq_getElem?
def Oy:=@List.ext_getElem?
def Oz:=@List.find?_append
def O1:=@Nat.add_assoc
def O2:=@not_or
def O3:=@Bool.false_or
def O4:=@Bool.bne_true
def O5:=@Int.lt_irrefl
def Qe:=@List.drop_append
def Qf:=@List.getElem?_cons_succ
def Qg:=@List.reverse_nil
def Qh:=@Nat.lt_succ_self
def Qi:=@Nat.add_sub_cancel_left
def Qj:=@Int.eq_ofNat_of_zero_le
def Qk:=@Int.natCast_zero
def Ql:=@List.map_reverse
def Ra:=@List.sublist_cons_self
def Rb:=@Option.map_eq_some_iff
def Rc:=@Nat.le_of_lt
def Rd:=@Int.not_lt
def RP:=@Bool.or_eq_true
def RQ:=@List.find?_some
def Sg:=@Array.getElem?_toList
def Vg:=@List.take_succ_cons
def Vi:=@List.take_set_of_le
def Vj:=@Array.getElem?_push
def Vk:=@List.map_congr_left
def Vl:=@List.length_reverse
def Vm:=@List.filter_eq_self
def Vn:=@List.mem_map_of_mem
def Ws:=@List.all_cons
def aG:=@and_self
def aH:=@dif_pos
def aI:=@List.getElem_take
def aW:=@Array.getElem?_setIfInBounds_ne
def aX:=@List.takeWhile_append_dropWhile
def gA:=@List.zipIdx_cons
def gB:=@List.take_append
def gC:=@List.mem_flatMap
def gD:=@List.any_eq_true
def p9:=@List.foldl_cons
def qA:=@Array.getElem?_setIfInBounds
def qB:=@Bool.eq_iff_iff
def qC:=@List.any_append
def yG:=@beq_iff_eq
def gg:=@List.take_add
def gh:=@List.eq_of_mem_replicate
def gi:=@Bool.or_false
def mc:=@and_false
def me:=@false_and
def mf:=@List.filter_cons_of_pos
def mg:=@List.length_eq_zero_iff
def mh:=@List.getLast?_cons_cons
def yv:=@List.length_eq_one_iff
def yw:=@Nat.lt_trans
def yz:=@Bool.true_or
def y_:=@eq_comm
def za:=@List.set_set
def zb:=@List.getElem_cons_zero
def Q_:=@List.contains_iff_mem
def R_:=@List.length_filter_le
def ż:=@List.getElem?_append
def Ž:=@List.range_eq_range'
def ž:=@List.pairwise_append
def ſ:=@List.mem_of_getLast?
def aAW:=@List.getElem?_range
def aAX:=@Nat.add_sub_cancel'
def aAY:=@List.drop_set_of_lt
def aAZ:=@Array.toList_zipIdx
def aA0:=@List.getElem_of_mem
def aA1:=@List.getD_cons_succ
def aEu:=@List.zip_cons_cons
def aEv:=@Array.foldl_toList
def aEw:=@List.pairwise_cons
def aEx:=@List.getElem_range
def aEy:=@List.set_cons_zero
def aEz:=@Option.isSome_some
def aEA:=@List.findIdx?_cons
def aEB:=@Option.toList_some
def aEC:=@List.map_singleton
def aG4:=@Bool.not_eq_true'
def aG5:=@List.getElem?_set
def aG6:=@List.pairwise_map
def aG9:=@List.drop_sublist
def aHa:=@List.length_range
def aHb:=@List.getLast?_nil
def aHc:=@Nat.lt_trichotomy
def aHd:=@of_decide_eq_true
abbrev aLG:List UInt8:=[97,116,116,114,105,98,117,116,101,78,97,109,101,32,97,116,116,114,105,98,117,116,101,84,121,112,101,32,98,97,115,101,70,114,101,113,117,101,110,99,121,32,98,97,115,101,80,114,111,102,105,108,101,32,99,97,108,99,77,111,100,101,32,99,108,105,112,80,97,116,104,85,110,105,116,115,32,100,105,102,102,117,115,101,67,111,110,115,116,97,110,116,32,101,100,103,101,77,111,100,101,32,102,105,108,116,101,114,85,110,105,116,115,32,103,108,121,112,104,82,101,102,32,103,114,97,100,105,101,110,116,84,114,97,110,115,102,111,114,109,32,103,114,97,100,105,101,110,116,85,110,105,116,115,32,107,101,114,110,101,108,77,97,116,114,105,120,32,107,101,114,110,101,108,85,110,105,116,76,101,110,103,116,104,32,107,101,121,80,111,105,110,116,115,32,107,101,121,83,112,108,105,110,101,115,32,107,101,121,84,105,109,101,115,32,108,101,110,103,116,104,65,100,106,117,115,116,32,108,105,109,105,116,105,110,103,67,111,110,101,65,110,103,108,101,32,109,97,114,107,101,114,72,101,105,103,104,116,32,109,97,114,107,101,114,85,110,105,116,115,32,109,97,114,107,101,114,87,105,100,116,104,32,109,97,115,107,67,111,110,116,101,110,116,85,110,105,116,115,32,109,97,115,107,85,110,105,116,115,32,110,117,109,79,99,116,97,118,101,115,32,112,97,116,104,76,101,110,103,116,104,32,112,97,116,116,101,114,110,67,111,110,116,101,110,116,85,110,105,116,115,32,112,97,116,116,101,114,110,84,114,97,110,115,102,111,114,109,32,112,97,116,116,101,114,110,85,110,105,116,115,32,112,111,105,110,116,115,65,116,88,32,112,111,105,110,116,115,65,116,89,32,112,111,105,110,116,115,65,116,90,32,112,114,101,115,101,114,118,101,65,108,112,104,97,32,112,114,101,115,101,114,118,101,65,115,112,101,99,116,82,97,116,105,111,32,112,114,105,109,105,116,105,118,101,85,110,105,116,115,32,114,101,102,88,32,114,101,102,89,32,114,101,112,101,97,116,67,111,117,110,116,32,114,101,112,101,97,116,68,117,114,32,114,101,113,117,105,114,101,100,69,120,116,101,110,115,105,111,110,115,32,114,101,113,117,105,114,101,100,70,101,97,116,117,114,101,115,32,115,112,101,99,117,108,97,114,67,111,110,115,116,97,110,116,32,115,112,101,99,117,108,97,114,69,120,112,111,110,101,110,116,32,115,112,114,101,97,100,77,101,116,104,111,100,32,115,116,97,114,116,79,102,102,115,101,116,32,115,116,100,68,101,118,105,97,116,105,111,110,32,115,116,105,116,99,104,84,105,108,101,115,32,115,117,114,102,97,99,101,83,99,97,108,101,32,115,121,115,116,101,109,76,97,110,103,117,97,103,101,32,116,97,98,108,101,86,97,108,117,101,115,32,116,97,114,103,101,116,88,32,116,97,114,103,101,116,89,32,116,101,120,116,76,101,110,103,116,104,32,118,105,101,119,66,111,120,32,118,105,101,119,84,97,114,103,101,116,32,120,67,104,97,110,110,101,108,83,101,108,101,99,116,111,114,32,121,67,104,97,110,110,101,108,83,101,108,101,99,116,111,114,32,122,111,111,109,65,110,100,80,97,110]
abbrev aLH:List UInt8:=[97,108,116,71,108,121,112,104,32,97,108,116,71,108,121,112,104,68,101,102,32,97,108,116,71,108,121,112,104,73,116,101,109,32,97,110,105,109,97,116,101,67,111,108,111,114,32,97,110,105,109,97,116,101,77,111,116,105,111,110,32,97,110,105,109,97,116,101,84,114,97,110,115,102,111,114,109,32,99,108,105,112,80,97,116,104,32,102,101,66,108,101,110,100,32,102,101,67,111,108,111,114,77,97,116,114,105,120,32,102,101,67,111,109,112,111,110,101,110,116,84,114,97,110,115,102,101,114,32,102,101,67,111,109,112,111,115,105,116,101,32,102,101,67,111,110,118,111,108,118,101,77,97,116,114,105,120,32,102,101,68,105,102,102,117,115,101,76,105,103,104,116,105,110,103,32,102,101,68,105,115,112,108,97,99,101,109,101,110,116,77,97,112,32,102,101,68,105,115,116,97,110,116,76,105,103,104,116,32,102,101,68,114,111,112,83,104,97,100,111,119,32,102,101,70,108,111,111,100,32,102,101,70,117,110,99,65,32,102,101,70,117,110,99,66,32,102,101,70,117,110,99,71,32,102,101,70,117,110,99,82,32,102,101,71,97,117,115,115,105,97,110,66,108,117,114,32,102,101,73,109,97,103,101,32,102,101,77,101,114,103,101,32,102,101,77,101,114,103,101,78,111,100,101,32,102,101,77,111,114,112,104,111,108,111,103,121,32,102,101,79,102,102,115,101,116,32,102,101,80,111,105,110,116,76,105,103,104,116,32,102,101,83,112,101,99,117,108,97,114,76,105,103,104,116,105,110,103,32,102,101,83,112,111,116,76,105,103,104,116,32,102,101,84,105,108,101,32,102,101,84,117,114,98,117,108,101,110,99,101,32,102,111,114,101,105,103,110,79,98,106,101,99,116,32,103,108,121,112,104,82,101,102,32,108,105,110,101,97,114,71,114,97,100,105,101,110,116,32,114,97,100,105,97,108,71,114,97,100,105,101,110,116,32,116,101,120,116,80,97,116,104]
abbrev aLI:List UInt8:=[116,101,109,112,108,97,116,101]
abbrev aLJ:List UInt8:=[97,110,110,111,116,97,116,105,111,110,45,120,109,108]
abbrev aLK:List UInt8:=[116,97,98,108,101]
abbrev aLL:List UInt8:=[102,111,114,101,105,103,110,79,98,106,101,99,116]
abbrev aLM:List UInt8:=[99,97,112,116,105,111,110]
abbrev aLN:List UInt8:=[104,116,109,108]
abbrev aLO:List UInt8:=[98,117,116,116,111,110]
abbrev aLP:List UInt8:=[111,112,116,103,114,111,117,112]
abbrev aLQ:List UInt8:=[97,112,112,108,105,99,97,116,105,111,110,47,120,104,116,109,108,43,120,109,108]
abbrev aLR:List UInt8:=[120,108,105,110,107,58,97,114,99,114,111,108,101]
abbrev aLS:List UInt8:=[120,108,105,110,107,58,97,99,116,117,97,116,101]
abbrev aLT:List UInt8:=[120,108,105,110,107,58,116,105,116,108,101]
abbrev aLU:List UInt8:=[120,109,108,110,115,58,120,108,105,110,107]
abbrev aLV:List UInt8:=[99,111,108,103,114,111,117,112]
abbrev aLW:List UInt8:=[116,102,111,111,116]
abbrev aLX:List UInt8:=[116,105,116,108,101]
abbrev aLY:List UInt8:=[120,109,108,110,115]
abbrev aLZ:List UInt8:=[111,112,116,105,111,110]
abbrev aL0:List UInt8:=[116,98,111,100,121]
abbrev aL1:List UInt8:=[116,104,101,97,100]
abbrev aL2:List UInt8:=[120,108,105,110,107,58,104,114,101,102]
abbrev aL3:List UInt8:=[120,108,105,110,107,58,114,111,108,101]
abbrev aL4:List UInt8:=[120,108,105,110,107,58,115,104,111,119]
abbrev aL5:List UInt8:=[120,108,105,110,107,58,116,121,112,101]
abbrev aL6:List UInt8:=[100,101,102,105,110,105,116,105,111,110,117,114,108]
abbrev aL7:List UInt8:=[120,109,108,58,115,112,97,99,101]
abbrev aL8:List UInt8:=[100,101,102,105,110,105,116,105,111,110,85,82,76]
abbrev aL9:List UInt8:=[120,109,108,58,108,97,110,103]
abbrev aMa:List UInt8:=[109,97,114,113,117,101,101]
abbrev aMb:List UInt8:=[97,114,99,114,111,108,101]
abbrev aMc:List UInt8:=[97,99,116,117,97,116,101]
abbrev aMd:List UInt8:=[97,112,112,108,101,116]
abbrev aMe:List UInt8:=[116,101,120,116,47,104,116,109,108]
abbrev aMf:List UInt8:=[115,101,108,101,99,116]
abbrev aMg:List UInt8:=[111,98,106,101,99,116]
abbrev aMh:List UInt8:=[100,101,115,99]
abbrev aMi:List UInt8:=[101,110,99,111,100,105,110,103]
abbrev aMj:List UInt8:=[102,114,97,109,101,115,101,116]
abbrev aMk:List UInt8:=[120,108,105,110,107]
abbrev aMl:List UInt8:=[115,112,97,99,101]
abbrev aMm:List UInt8:=[104,114,101,102]
abbrev aMn:List UInt8:=[114,111,108,101]
abbrev aMo:List UInt8:=[115,104,111,119]
abbrev aMp:List UInt8:=[116,121,112,101]
theorem Ab{p:Prop}(h:p:=by omega):p:=h
theorem Av{p:Prop}(h:p:=by simp):p:=h
theorem Br{p:Prop}(h:p:=by decide):p:=h
theorem eZ{p:Prop}(h:p:=by decide +kernel):p:=h
theorem Gp{p:Prop}(h:p:=by simp only; omega):p:=h
theorem Ew{p:Prop}(h:p:=by simp; omega):p:=h
theorem Hp{p:Prop}(h:p:=by simp[Go.Op.operands]):p:=h
theorem OG{p:Prop}(h:p:=by simp[Go.Value.cells,Go.Value.oneCell']):p:=h
section
section
namespace Go.Am
abbrev Au:=List UInt8
inductive Aa where
 |bool (b:Bool)
 |int (k:IntKind) (n:Int)
 |str (s:Au)
 |ptr (p:Option (Nat×Nat))
 |B3 (cells:List Aa)
 |sl (size:Nat) (Af:List (List Aa))
 |slnil
 |Fb (size:Nat)
 |CI (id off len size:Nat)
 |map (m:Option Nat)
 |func (fn:Fn) (first captured:List Aa)
 |nilFunc
 |iface (t:TypeId) (v:Aa)
 |nilIface
 |agg (cells:List Aa)
 |tuple (vs:List Aa)
 deriving Inhabited
mutual
def Aa.beq:Aa->Aa->Bool
 | .bool a,.bool b=>a==b
 | .int k a,.int l b=>k==l&&a==b
 | .str a,.str b=>a==b
 | .ptr a,.ptr b=>a==b
 | .B3 a,.B3 b=>Aa.O9 a b
 | .sl n a,.sl m b=>n==m&&Aa.Pb a b
 | .slnil,.slnil=>true
 | .Fb a,.Fb b=>a==b
 | .CI a b c d,.CI a' b' c' e=>a==a'&&b==b'&&c==c'&&d==e
 | .map a,.map b=>a==b
 | .func f a b,.func f' a' b'=>f==f'&&Aa.O9 a a'&&Aa.O9 b b'
 | .nilFunc,.nilFunc=>true
 | .iface t a,.iface t' a'=>t==t'&&Aa.beq a a'
 | .nilIface,.nilIface=>true
 | .agg a,.agg b=>Aa.O9 a b
 | .tuple a,.tuple b=>Aa.O9 a b
 |_,_=>false
def Aa.O9:List Aa->List Aa->Bool
 |[],[]=>true
 |a::x,b::y=>Aa.beq a b&&Aa.O9 x y
 |_,_=>false
def Aa.Pb:List (List Aa)->List (List Aa)->Bool
 |[],[]=>true
 |a::x,b::y=>Aa.O9 a b&&Aa.Pb x y
 |_,_=>false
end
def Aa.cells:Aa->List Aa
 | .agg cs=>cs
 | .tuple _=>[]
 |v=>[v]
inductive DH where
 |cells (cs:List Aa)
 |map (es:List (Aa×Aa))
 |DD
 deriving Inhabited
abbrev Ah:=List DH
inductive qQ where
 |copy (size:Nat)
 |clear (size:Nat) (zero:List Aa)
 |mD (size:Nat) (lo hi:Bool)
 |aY (size:Nat)
 |S_ (t:TypeId)
 |yW (zero:Aa) (ok:Bool)
 |L6 (zero:Aa)
 |qR (zero:Aa)
 |Lc
 |mi
 |mE
 |Qn (g:Ah->List Aa->Option (Ah×Aa))
def qQ.T_:qQ->Bool
 | .aY _| .clear _ _| .Lc| .mi=>true
 |_=>false
inductive DN where
 |undef
 |skip
 |val (v:Aa)
 |MO (b:Bool)
 |BB (v:Aa)
 |box (ver:Nat) (cells:List Aa) (BB:List Nat)
 |Eo (s off:Nat)
 deriving Inhabited
abbrev Bu:=List DN
def Bu.at(U:Bu)(s:Nat):DN:=U.getD s .undef
def DN.Ga:DN->Option Aa
 | .val v| .BB v=>some v
 | .MO b=>some (.bool b)
 |_=>none
inductive FK where
 |b|i|s
 deriving DecidableEq,Inhabited
inductive NK where
 |sl|fn|mp
 deriving DecidableEq,Inhabited
inductive UA where
 |int (op:BinOp)
 |str (op:BinOp)
 |beq (neg:Bool)
 |geq (neg:Bool) (ks:List FK)
 |UB (neg:Bool)
 |Gb (neg:Bool) (k:NK)
 |un (op:UnOp)
 |conv(k:IntKind)
 |pick
 |part (off:Nat) (n:Option Nat)
 |mj (len size:Nat) (n:Option Nat)
 |Yo
 |FB (off:Nat)
 |ER (size:Nat)
 |SB (len size:Nat)
 |len (isStr:Bool)
 |append (size bytes:Nat)
 |Qo (size:Nat) (isStr lo hi:Bool)
 |ext (i:Nat)
 |JL
 |Cb (size:Nat)
 |Fb (size:Nat)
 |B0 (zero:List Aa) (places:List (Nat×Nat))
 |JM (isMax:Bool)
 |UF
 |zc
 |i2s
 deriving Inhabited
def MW:Value->Option Aa
 | .bool b=>some (.bool b)
 | .int k n=>some (.int k n)
 | .string s=>some (.str s.data.toList)
 | .pointer none=>some (.ptr none)
 | .slice none 0 0=>some .slnil
 | .map none=>some (.map none)
 | .func fn f c=>if f.size=0/\c.size=0 then some (.func fn [] []) else none
 | .nilFunc=>some .nilFunc
 | .nilIface=>some .nilIface
 |_=>none
def Ke:List Value->Option (List Aa)
 |[]=>some []
 |v::vs=>match MW v,Ke vs with
  |some a,some as=>some (a::as)
  |_,_=>none
def Jl:Value->Option Aa
 | .agg cs=>(Ke cs.toList).map .agg
 |v=>MW v
def NI:Sem Value->Option Value
 | .pure v=>some v
 |_=>none
def AN:Nat:=140737488355328
def gE(op:BinOp)(k:IntKind)(a:Int)(l:IntKind)(b:Int):Option Aa:=
 (NI (binOp op 0 (.int k a) (.int l b))).bind λv=>match v with
  | .int k n=>some (.int k n)
  | .bool b=>some (.bool b)
  |_=>none
def Yp(op:BinOp)(a b:Au):Option Aa:=
 match op with
 | .add=>if a.length+b.length<=9223372036854775807 then some (.str (a++b)) else none
 | .eql=>some (.bool (a==b))
 | .neq=>some (.bool (!(a==b)))
 | .lss=>some (.bool (Op.bytesLess a b))
 | .leq=>some (.bool (Op.bytesLess a b||a==b))
 | .gtr=>some (.bool (!(Op.bytesLess a b||a==b)))
 | .geq=>some (.bool (!(Op.bytesLess a b)))
 |_=>none
def I2:FK->Aa->Aa->Option Bool
 | .b,.bool a,.bool b=>some (a==b)
 | .i,.int k a,.int l b=>if k=l then some (a==b) else none
 | .s,.str a,.str b=>some (a==b)
 |_,_,_=>none
def De:List FK->List Aa->List Aa->Option Bool
 |[],[],[]=>some true
 |k::ks,a::x,b::y=>match I2 k a b,De ks x y with
  |some e,some es=>some (e&&es)
  |_,_=>none
 |_,_,_=>none
def gF:Aa->Aa->Option Bool
 | .ptr none,.ptr b=>some b.isNone
 | .ptr (some _),.ptr none=>some false
 | .ptr (some a),.ptr (some b)=>if a=b then some true else none
 | .ptr none,.B3 _=>some false
 | .B3 _,.ptr none=>some false
 |_,_=>none
def gG:NK->Aa->Aa->Option Bool
 | .sl,.slnil,.slnil=>some true
 | .sl,.slnil,.sl _ _=>some false
 | .sl,.sl _ _,.slnil=>some false
 | .sl,.slnil,.Fb _=>some false
 | .sl,.Fb _,.slnil=>some false
 | .sl,.slnil,.CI _ _ _ _=>some false
 | .sl,.CI _ _ _ _,.slnil=>some false
 | .fn,.nilFunc,.nilFunc=>some true
 | .fn,.nilFunc,.func _ _ _=>some false
 | .fn,.func _ _ _,.nilFunc=>some false
 | .mp,.map none,.map b=>some b.isNone
 | .mp,.map (some _),.map none=>some false
 |_,_,_=>none
def Ez(cs:List Aa)(off:Nat):Option Nat->Option Aa
 |none=>cs[off]?
 |some n=>if off+n<=cs.length then some (.agg ((cs.drop off).take n)) else none
def Lx(n:Int)(len:Nat):Option Nat:=if 0<=n/\n<len then some n.toNat else none
def Fq(n:Int)(top:Nat):Option Nat:=if 0<=n/\n<=top then some n.toNat else none
def DO(lo hi:Bool)(len:Nat)(as:List Aa):Option (Nat×Nat):=
 match lo,hi with
 |false,false=>match as with
  |[]=>some (0,len)
  |_=>none
 |false,true=>match as with
  |[.int _ h]=>(Fq h len).map λh=>(0,h)
  |_=>none
 |true,false=>match as with
  |[.int _ l]=>(Fq l len).map λl=>(l,len)
  |_=>none
 |true,true=>match as with
  |[.int _ l,.int _ h]=>(Fq h len).bind λh=>(Fq l h).map λl=>(l,h)
  |_=>none
def KO:List (List Aa)->Option Au
 |[]=>some []
 |[.int .u8 n]::rs=>(KO rs).map λl=>n.toNat.toUInt8::l
 |_=>none
def CG(s:Au):List (List Aa):=s.map λb=>[.int .u8 b.toNat]
def C0(size bytes:Nat)(s:Aa)(Af:List (List Aa)):Option Aa:=
 match Af with
 |[]=>match s with
  | .slnil=>some .slnil
  | .Fb z=>if z=size then some (.Fb z) else none
  | .sl z r=>if z=size then some (.sl z r) else none
  |_=>none
 |Af=>match s with
  | .slnil=>if Af.length*bytes<=AN then some (.sl size Af) else none
  | .Fb z=>if z=size/\Af.length*bytes<=AN then some (.sl size Af) else none
  | .sl z r=>if z=size/\(r.length+Af.length)*bytes<=AN then some (.sl size (r++Af)) else none
  |_=>none
def Bl(cs:List Aa):List ((Nat×Nat)×Aa)->Option (List Aa)
 |[]=>some cs
 |((off,size),v)::rest=>if 0<size/\v.cells.length=size/\off+size<=cs.length then Bl (cs.take off++v.cells++cs.drop (off+size)) rest else none
def gj(k:IntKind)(n:Int):Option Aa:=
 (NI (Op.unary .xor (.int k n))).bind λv=>match v with
  | .int k n=>some (.int k n)
  |_=>none
def ml:UnOp->Aa->Option Aa
 | .not,.bool b=>some (.bool (!b))
 | .neg,.int k n=>some (.int k (k.wrap (0 -n)))
 | .xor,.int k n=>gj k n
 |_,_=>none
def Vo(p:Aa)(off:Nat):Option Aa:=
 match p with
 | .B3 cs=>some (.B3 (cs.drop off))
 | .ptr (some (id,o))=>some (.ptr (some (id,o+off)))
 |_=>none
def elemOf(size:Nat)(s:Aa)(i:Int):Option Aa:=
 match s with
 | .sl z Af=>if z=size then(if 0<=i then(Af[i.toNat]?).map .B3 else none) else none
 | .CI id off len z=>if z=size then(Lx i len).map λi=> .ptr (some (id,off+i*size)) else none
 |_=>none
def lenOf(isStr:Bool)(s:Aa):Option Aa:=
 match s with
 | .sl _ Af=>if isStr then none else some (.int .i64 Af.length)
 | .CI _ _ n _=>if isStr then none else some (.int .i64 n)
 | .slnil=>if isStr then none else some (.int .i64 0)
 | .Fb _=>if isStr then none else some (.int .i64 0)
 | .str s=>if isStr then some (.int .i64 s.length) else none
 |_=>none
def Gw(size bytes:Nat)(s x:Aa):Option Aa:=
 match x with
 | .slnil=>C0 size bytes s []
 | .Fb z=>if z=size then C0 size bytes s [] else none
 | .sl z Af=>if z=size then C0 size bytes s Af else none
 | .str x=>if size=1 then C0 size bytes s (CG x) else none
 |_=>none
def J3(size:Nat)(isStr lo hi:Bool)(s:Aa)(as:List Aa):Option Aa:=
 match s with
 | .str s=>if isStr then(DO lo hi s.length as).map λ(l,h)=> .str ((s.take h).drop l) else none
 | .sl z Af=>if isStr=false/\z=size then(DO lo hi Af.length as).map λ(l,h)=> .sl z ((Af.take h).drop l) else none
 | .CI id off n z=>if isStr=false/\z=size then(DO lo hi n as).bind λ(l,h)=>if l<n then some (.CI id (off+l*z) (h-l) z) else some (.sl z []) else none
 | .slnil=>if isStr then none else(DO lo hi 0 as).map λ_=> .slnil
 |_=>none
def Yq:Aa->Option Aa
 | .ptr (some p)=>some (.ptr (some p))
 | .B3 cs=>some (.B3 cs)
 | .func (.func f) a b=>some (.func (.func f) a b)
 |_=>none
def Wt:Aa->Option Aa
 | .sl 1 Af=>(KO Af).map .str
 | .slnil=>some (.str [])
 |_=>none
def Ax(p:UA)(args:List Aa):Option Aa:=
 match p with
 | .int op=>match args with
  |[.int k a,.int l b]=>gE op k a l b
  |_=>none
 | .str op=>match args with
  |[.str a,.str b]=>Yp op a b
  |_=>none
 | .beq neg=>match args with
  |[.bool a,.bool b]=>some (.bool ((a==b) != neg))
  |_=>none
 | .geq neg ks=>match args with
  |[.agg a,.agg b]=>(De ks a b).map λe=> .bool (e != neg)
  |_=>none
 | .UB neg=>match args with
  |[a,b]=>(gF a b).map λe=> .bool (e != neg)
  |_=>none
 | .Gb neg k=>match args with
  |[a,b]=>(gG k a b).map λe=> .bool (e != neg)
  |_=>none
 | .un op=>match args with
  |[v]=>ml op v
  |_=>none
 | .conv k=>match args with
  |[.int _ n]=>some (.int k (k.wrap n))
  |_=>none
 | .i2s=>match args with
  |[.int _ n]=>some (.str (Utf8.encode n).data.toList)
  |_=>none
 | .pick=>match args with
  |[.bool c,a,b]=>some (if c then a else b)
  |_=>none
 | .part off n=>match args with
  |[.agg cs]=>Ez cs off n
  |_=>none
 | .mj len size n=>match args with
  |[.agg cs,.int _ i]=>(Lx i len).bind λi=>Ez cs (i*size) n
  |_=>none
 | .Yo=>match args with
  |[.str s,.int _ i]=>if 0<=i then(s[i.toNat]?).map λb=> .int .u8 b.toNat else none
  |_=>none
 | .FB off=>match args with
  |[p]=>Vo p off
  |_=>none
 | .ER size=>match args with
  |[s,.int _ i]=>elemOf size s i
  |_=>none
 | .SB len size=>match args with
  |[p,.int _ i]=>(Lx i len).bind λi=>Vo p (i*size)
  |_=>none
 | .len isStr=>match args with
  |[s]=>lenOf isStr s
  |_=>none
 | .append size bytes=>match args with
  |[s,x]=>Gw size bytes s x
  |_=>none
 | .Qo size isStr lo hi=>match args with
  |s::as=>J3 size isStr lo hi s as
  |_=>none
 | .ext i=>match args with
  |[.tuple vs]=>vs[i]?
  |_=>none
 | .JL=>match args with
  |[v]=>Yq v
  |_=>none
 | .Cb size=>if args.all (λa=>a.cells.length==size)&&decide (args.length*size<=16777216) then some (.sl size (args.map (·.cells))) else none
 | .Fb size=>if args.isEmpty then some (.Fb size) else none
 | .B0 zero places=>if places.length=args.length then(Bl zero (places.zip args)).map .agg else none
 | .JM isMax=>match args with
  |[.int k a,.int l b]=>if k=l then some (.int k (if isMax then(if b>a then b else a) else(if b<a then b else a))) else none
  |_=>none
 | .UF=>match args with
  |[v]=>Wt v
  |_=>none
 | .zc=>match args with
  |[.str s]=>if s.length<=AN then some (.sl 1 (CG s)) else none
  |_=>none
inductive Fc where
 |normal
 |exit (id:Nat)
 |ret
 deriving DecidableEq,Inhabited
inductive IT where
 |ret (x:Fc) (vs:List Aa)
 |fail
 |op (o:UA) (args:List Aa) (k:Aa->IT)
 |cells (n:Nat) (v:Aa) (k:List Aa->IT)
 |AM (c:Aa) (t e:IT)
 |load (n:Option Nat) (p:Aa) (k:Aa->IT)
 |store (n:Nat) (p v:Aa) (k:IT)
 |alloc (n:Nat) (v:Aa) (k:Aa->IT)
 |call (f:FuncId) (args:List Aa) (k:Aa->IT)
 |Es (fn:Aa) (args:List Aa) (k:Aa->IT)
 |Cx (f:FuncId) (args:List Aa) (k:Aa->IT)
 |loop (key:Nat) (init:List Aa) (body:List Aa->IT) (k:Fc->List Aa->IT)
 |DW (key:Nat) (t:IT) (k:Fc->List Aa->IT)
 |same (a b:Aa) (k:IT)
 |N4 (k:Aa->IT)
 |Js (m key v:Aa) (k:IT)
 |Ly (zero:Aa) (ok:Bool) (m key:Aa) (k:Aa->IT)
 |make (size bytes:Nat) (zero:List Aa) (len cap:Aa) (k:Aa->IT)
 |IV (size bytes:Nat) (s x:Aa) (k:Aa->IT)
 |ES (s:Aa) (k:Aa->IT)
 |SC (v:Aa) (k:Aa->IT)
 |HJ (off:Nat) (p:Aa) (k:IT)
 |FC (size bytes:Nat) (s x:Aa) (k:Aa->IT)
 |FD (size bytes:Nat) (s x:Aa) (k:Aa->IT)
 |mem (o:qQ) (args:List Aa) (k:Aa->IT)
 |qS (f:FuncId) (args:List Aa) (k:Aa->IT)
 deriving Inhabited
def Aa.KK:Aa->Bool
 | .bool _| .int _ _| .str _=>true
 |_=>false
def Bk(h:Ah)(n:Option Nat):Aa->Option Aa
 | .B3 cs=>Ez cs 0 n
 | .ptr (some (id,off))=>match h[id]? with
  |some (.cells cs)=>Ez cs off n
  |_=>none
 |_=>none
def CK(h:Ah)(n:Nat)(p v:Aa):Option Ah:=
 match p with
 | .ptr (some (id,off))=>match h[id]? with
  |some (.cells cs)=>if v.cells.length=n/\off+n<=cs.length then some (h.set id (.cells (cs.take off++v.cells++cs.drop (off+n)))) else none
  |_=>none
 |_=>none
def Wu(h:Ah)(n:Nat)(v:Aa):Option (Ah×Aa):=
 if v.cells.length=n then some (h++[.cells v.cells],.ptr (some (h.length,0))) else none
def SD(s:Au):List (Aa×Aa)->Option (Option Aa)
 |[]=>some none
 |(.str t,v)::es=>if s=t then some (some v) else SD s es
 |_=>none
def MP(s:Au)(v:Aa):List (Aa×Aa)->Option (List (Aa×Aa))
 |[]=>some [(.str s,v)]
 |(.str t,v')::es=>if s=t then some ((.str s,v)::es) else(MP s v es).map λes=>(.str t,v')::es
 |_=>none
def Re(h:Ah)(m k v:Aa):Option Ah:=
 match m,k with
 | .map (some id),.str s=>match h[id]? with
  |some (.map es)=>(MP s v es).map λes=>h.set id (.map es)
  |_=>none
 |_,_=>none
def SE(h:Ah)(m k:Aa):Option (Option Aa):=
 match m,k with
 | .map none,.str _=>some none
 | .map (some id),.str s=>match h[id]? with
  |some (.map es)=>SD s es
  |_=>none
 |_,_=>none
def Rf(h:Ah)(zero:Aa)(ok:Bool)(m k:Aa):Option Aa:=
 (SE h m k).map λr=>match r with
  |some v=>if ok then .tuple [v,.bool true] else v
  |none=>if ok then .tuple [zero,.bool false] else zero
def Od(h:Ah)(size bytes:Nat)(zero:List Aa):Aa->Aa->Option (Ah×Aa)
 | .int .i64 n,.int .i64 c=>if 0<=n/\n<=c/\c.toNat*bytes<=AN/\zero.length=size then
  some (h++[.cells (List.replicate c.toNat zero).flatten],.CI h.length 0 n.toNat size) else none
 |_,_=>none
def MX(size:Nat):Aa->Bool
 | .slnil=>true
 | .Fb z=>z==size
 | .sl z []=>z==size
 |_=>false
def Ld(h:Ah)(size bytes:Nat)(s:Aa):Aa->Option (Ah×Aa)
 | .sl z Af=>if MX size s then(match Af with
   |[]=>some (h,s)
   |Af=>if z=size/\Af.length*bytes<=AN then some (h++[.cells Af.flatten],.CI h.length 0 Af.length size) else none)
  else none
 | .slnil=>if MX size s then some (h,s) else none
 | .Fb z=>if MX size s&&z==size then some (h,s) else none
 |_=>none
def Ie(h:Ah):Aa->Option (Ah×Aa)
 | .str s=>if s.length<=AN then some (h++[.cells (s.map λb=> .int .u8 b.toNat)],.CI h.length 0 s.length 1) else none
 |_=>none
def Cf(cs:List Aa)(z:Nat):Nat->Nat->List (List Aa)
 |_,0=>[]
 |off,n+1=>(cs.drop off).take z::Cf cs z (off+z) n
def Lf(h:Ah):Aa->Option (Ah×Aa)
 | .CI id off n z=>match h[id]? with
  |some (.cells cs)=>if off+n*z<=cs.length then some (h.set id .DD,.sl z (Cf cs z off n)) else none
  |_=>none
 |v=>some (h,v)
def Kk(h:Ah)(off:Nat)(p:Aa):Option Ah:=
 match p with
 | .ptr none=>some h
 | .ptr (some (id,o))=>match h[id]? with
  |some (.cells cs)=>match cs[o+off]? with
   |some v=>(Lf h v).bind λ(h',v')=>match h'[id]? with
    |some (.cells FU)=>some (h'.set id (.cells (FU.set (o+off) v')))
    |_=>none
   |none=>none
  |_=>none
 |_=>none
def Gc(h:Ah)(size:Nat):Aa->Option (List (List Aa))
 | .slnil=>some []
 | .Fb z=>if z=size then some [] else none
 | .sl z Af=>if z=size then some Af else none
 | .str s=>if size=1 then some (CG s) else none
 | .CI id off n z=>if z=size then match h[id]? with
   |some (.cells cs)=>if off+n*z<=cs.length then some (Cf cs z off n) else none
   |_=>none
  else none
 |_=>none
def ET(h:Ah)(size bytes:Nat)(s x:Aa):Option (Ah×Aa):=
 match Gc h size x with
 |none=>none
 |some []=>match s with
  | .slnil=>some (h,s)
  | .Fb z=>if z=size then some (h,s) else none
  | .CI _ _ _ z=>if z=size then some (h,s) else none
  |_=>none
 |some Af=>match s with
  | .slnil=>if Af.length*bytes<=AN then some (h++[.cells Af.flatten],.CI h.length 0 Af.length size) else none
  | .Fb z=>if z=size/\Af.length*bytes<=AN then some (h++[.cells Af.flatten],.CI h.length 0 Af.length size) else none
  | .CI id off n z=>match h[id]? with
   |some (.cells cs)=>if z=size then
     (if off+(n+Af.length)*z<=cs.length then some (h.set id (.cells (cs.take (off+n*z)++Af.flatten++cs.drop (off+(n+Af.length)*z))),.CI id off (n+Af.length) z)
     else if off=0/\n*z<=cs.length/\(n+Af.length)*bytes<=AN then some (h.set id .DD++[.cells (cs.take (n*z)++Af.flatten)],.CI h.length 0 (n+Af.length) z) else none)
    else none
   |_=>none
  |_=>none
def Oe(h:Ah)(size bytes:Nat)(s x:Aa):Option Aa:=(Gc h size x).bind (C0 size bytes s)
def gH(h:Ah)(size:Nat)(d x:Aa):Option (Ah×Aa):=
 match Gc h size x with
 |none=>none
 |some Af=>match d with
  | .slnil=>if Af.length=0 then some (h,.int .i64 0) else none
  | .CI id off n z=>match h[id]? with
   |some (.cells cs)=>if z=size/\Af.length<=n/\off+n*z<=cs.length then some (h.set id (.cells (cs.take off++Af.flatten++cs.drop (off+Af.length*z))),.int .i64 Af.length) else none
   |_=>none
  |_=>none
def SF(h:Ah)(size:Nat)(zero:List Aa):Aa->Option (Ah×Aa)
 | .slnil=>some (h,.bool true)
 | .CI id off n z=>match h[id]? with
  |some (.cells cs)=>if z=size/\zero.length=size/\off+n*z<=cs.length then some (h.set id (.cells (cs.take off++(List.replicate n zero).flatten++cs.drop (off+n*z))),.bool true) else none
  |_=>none
 |_=>none
def Yr(h:Ah)(size:Nat)(lo hi:Bool)(s:Aa)(as:List Aa):Option (Ah×Aa):=
 match s with
 | .CI id off n z=>match h[id]? with
  |some (.cells cs)=>if z=size/\hi=true/\off<=cs.length then(DO lo hi ((cs.length-off)/z) as).bind λ(l,r)=>if l<(cs.length-off)/z then some (h,.CI id (off+l*z) (r-l) z) else none else none
  |_=>none
 |_=>none
def SG(size:Nat):List Aa->Bool
 |[s,.int _ l,.int _ r,.int _ m]=>match s with
  | .CI _ _ n z=>z=size&&decide (0<=l)&&decide (l<=r)&&decide (r<=m)&&decide (m<=n)
  | .sl z Af=>z=size&&decide (0<=l)&&decide (l<=r)&&decide (r<=m)&&decide (m<=Af.length)
  |_=>false
 |_=>false
def JN(k:Int):List (Aa×Aa)->Nat->Option (Option (Nat×Aa))
 |[],_=>some none
 |(.int .i64 t,v)::es,i=>if k=t then some (some (i,v)) else JN k es (i+1)
 |_,_=>none
def aZ(zero:Aa)(ok:Bool):Option (Nat×Aa)->Aa
 |some (_,v)=>if ok then .tuple [v,.bool true] else v
 |none=>if ok then .tuple [zero,.bool false] else zero
def gJ(h:Ah)(zero:Aa)(ok:Bool)(m k:Aa):Option (Ah×Aa):=
 match m,k with
 | .map none,.int .i64 _=>some (h,aZ zero ok none)
 | .map (some id),.int .i64 n=>match h[id]? with
  |some (.map es)=>(JN n es 0).map λr=>(h,aZ zero ok r)
  |_=>none
 |_,_=>none
def Si(h:Ah)(zero m k:Aa):Option (Ah×Aa):=
 match m,k with
 | .map (some id),.int .i64 n=>match h[id]? with
  |some (.map es)=>(JN n es 0).map λr=>match r with
   |some (i,v)=>(h,.tuple [v,.int .i64 i])
   |none=>(h.set id (.map (es++[(k,zero)])),.tuple [zero,.int .i64 es.length])
  |_=>none
 |_,_=>none
def SH(k:Au):List (Aa×Aa)->Nat->Option (Option (Nat×Aa))
 |[],_=>some none
 |(.str t,v)::es,i=>if k=t then some (some (i,v)) else SH k es (i+1)
 |_,_=>none
def Wv(h:Ah)(zero m k:Aa):Option (Ah×Aa):=
 match m,k with
 | .map (some id),.str n=>match h[id]? with
  |some (.map es)=>(SH n es 0).map λr=>match r with
   |some (i,v)=>(h,.tuple [v,.int .i64 i])
   |none=>(h.set id (.map (es++[(k,zero)])),.tuple [zero,.int .i64 es.length])
  |_=>none
 |_,_=>none
def Sj(h:Ah)(m i v:Aa):Option (Ah×Aa):=
 match m,i with
 | .map (some id),.int .i64 n=>match h[id]? with
  |some (.map es)=>if 0<=n then match es[n.toNat]? with
   |some (k,_)=>some (h.set id (.map (es.set n.toNat (k,v))),.bool true)
   |none=>none
   else none
  |_=>none
 |_,_=>none
def qT(h:Ah)(m k v:Aa):Option (Ah×Aa):=
 match m,k with
 | .map (some id),.int .i64 n=>match h[id]? with
  |some (.map es)=>match JN n es 0 with
   |some none=>some (h.set id (.map (es++[(.int .i64 n,v)])),.bool true)
   |_=>none
  |_=>none
 |_,_=>none
def NJ(h:Ah):List Aa->Option (Ah×Aa)
 |[.slnil,.int .i64 i,.sl 1 [[.int .i64 x]]]=>if i=0 then some (h++[.cells [.int .i64 x]],.CI h.length 0 1 1) else none
 |[.CI id 0 n 1,.int .i64 i,.sl 1 [[.int .i64 x]]]=>match h[id]? with
  |some (.cells cs)=>if 0<=i/\i.toNat<=n/\n<=cs.length/\(n+1)*8<=AN then some (h.set id .DD++[.cells (cs.take i.toNat++[.int .i64 x]++(cs.take n).drop i.toNat)],.CI h.length 0 (n+1) 1) else none
  |_=>none
 |_=>none
def D2(o:qQ)(h:Ah)(args:List Aa):Option (Ah×Aa):=
 match o with
 | .copy size=>match args with
  |[d,x]=>gH h size d x
  |_=>none
 | .clear size zero=>match args with
  |[s]=>SF h size zero s
  |_=>none
 | .mD size lo hi=>match args with
  |s::as=>Yr h size lo hi s as
  |_=>none
 | .aY size=>if SG size args then some (h,.bool true) else none
 | .S_ t=>match args with
  |[v]=>some (h,.iface t v)
  |_=>none
 | .yW zero ok=>match args with
  |[m,k]=>gJ h zero ok m k
  |_=>none
 | .L6 zero=>match args with
  |[m,k]=>Si h zero m k
  |_=>none
 | .qR zero=>match args with
  |[m,k]=>Wv h zero m k
  |_=>none
 | .Lc=>match args with
  |[m,i,v]=>Sj h m i v
  |_=>none
 | .mi=>match args with
  |[m,k,v]=>qT h m k v
  |_=>none
 | .mE=>NJ h args
 | .Qn g=>g h args
def DX(f:FuncId):FuncId:=if f<=99999 then f else f%100000
def CA:Aa->List Aa->Option (FuncId×List Aa)
 | .func (.func f) first captured,args=>if f<=99999 then some (f,first++args++captured) else none
 |_,_=>none
abbrev IW:=Fc×List Aa×Ah
def IT.step(fn:FuncId->List Aa->IT)(rec:IT->Ah->Option IW):IT->Ah->Option IW
 | .ret x vs,h=>some (x,vs,h)
 | .fail,_=>none
 | .op o args k,h=>match Ax o args with
  |some v=>IT.step fn rec (k v) h
  |none=>none
 | .cells n v k,h=>if v.cells.length=n then IT.step fn rec (k v.cells) h else none
 | .AM c t e,h=>match c with
  | .bool true=>IT.step fn rec t h
  | .bool false=>IT.step fn rec e h
  |_=>none
 | .load n p k,h=>match Bk h n p with
  |some v=>IT.step fn rec (k v) h
  |none=>none
 | .store n p v k,h=>match CK h n p v with
  |some h'=>IT.step fn rec k h'
  |none=>none
 | .alloc n v k,h=>match Wu h n v with
  |some (h',p)=>IT.step fn rec (k p) h'
  |none=>none
 | .call f args k,h=>match rec (fn f args) h with
  |some (.ret,[r],h')=>IT.step fn rec (k r) h'
  |_=>none
 | .Es g args k,h=>match CA g args with
  |some (f,args)=>match rec (fn f args) h with
   |some (.ret,[r],h')=>IT.step fn rec (k r) h'
   |_=>none
  |none=>none
 | .Cx f args k,h=>if args.all Aa.KK then match rec (fn f args) [] with
   |some (.ret,[r],_)=>if r.KK then IT.step fn rec (k r) h else none
   |_=>none
  else none
 | .loop key init body k,h=>match IT.step fn rec (body init) h with
  |some (.normal,vs,h')=>rec (.loop key vs body k) h'
  |some (x,vs,h')=>IT.step fn rec (k x vs) h'
  |none=>none
 | .DW _ t k,h=>match IT.step fn rec t h with
  |some (x,vs,h')=>IT.step fn rec (k x vs) h'
  |none=>none
 | .same a b k,h=>if Aa.beq a b then IT.step fn rec k h else none
 | .N4 k,h=>IT.step fn rec (k (.map (some h.length))) (h++[.map []])
 | .Js m key v k,h=>match Re h m key v with
  |some h'=>IT.step fn rec k h'
  |none=>none
 | .Ly zero ok m key k,h=>match Rf h zero ok m key with
  |some v=>IT.step fn rec (k v) h
  |none=>none
 | .make size bytes zero len cap k,h=>match Od h size bytes zero len cap with
  |some (h',v)=>IT.step fn rec (k v) h'
  |none=>none
 | .IV size bytes s x k,h=>match Ld h size bytes s x with
  |some (h',v)=>IT.step fn rec (k v) h'
  |none=>none
 | .ES s k,h=>match Ie h s with
  |some (h',v)=>IT.step fn rec (k v) h'
  |none=>none
 | .SC v k,h=>match Lf h v with
  |some (h',v')=>IT.step fn rec (k v') h'
  |none=>none
 | .HJ off p k,h=>match Kk h off p with
  |some h'=>IT.step fn rec k h'
  |none=>none
 | .FC size bytes s x k,h=>match ET h size bytes s x with
  |some (h',v)=>IT.step fn rec (k v) h'
  |none=>none
 | .FD size bytes s x k,h=>match Oe h size bytes s x with
  |some v=>IT.step fn rec (k v) h
  |none=>none
 | .mem o args k,h=>match D2 o h args with
  |some (h',v)=>IT.step fn rec (k v) h'
  |none=>none
 | .qS f args k,h=>match rec (fn f args) [] with
  |some (.ret,[r],_)=>if r.KK then IT.step fn rec (k r) h else none
  |_=>none
def IT.run(fn:FuncId->List Aa->IT):Nat->IT->Ah->Option IW
 |0=>λ_ _=>none
 |n+1=>IT.step fn (IT.run fn n)
end Go.Am
end
section
namespace Go.Am
inductive Sh where
 |val
 |BB
 |box (n:Nat) (BB:List Nat)
 deriving Inhabited
inductive gK where
 |MY|heap
 deriving DecidableEq,Inhabited
structure Fo where
 P:Program
 mm:FuncId->Nat->List (Nat×Sh)
 gl:FuncId->Nat->Option (List (Nat×Sh))
 gm:FuncId->Nat->Option (List (Nat×Sh))
 kind:FuncId->Nat->gK
 HX:FuncId->Bool
 gp:FuncId->Bool
 mF:FuncId->Nat->Bool
 Ww:FuncId->Nat->Bool
 qU:FuncId->Bool
 qV:FuncId->List (Nat×Nat)
 FV:Nat->Option (List Aa)
 mn:FuncId->Option (List Aa->IT)
 U_:FuncId->FuncId->FuncId
 MZ:FuncId->Bool
inductive D3 where
 |pure (ws:List (Nat×DN))
 |op (p:UA) (args:List Aa) (dst:Option Nat) (BB:Bool) (C7:Option (Nat×Aa))
 |box (n:Nat) (v:Aa) (dst:Nat)
 |J4 (fn:Fn) (first captured:List Aa) (froze:List (Nat×List Aa)) (dst:Nat)
 |Lg (s off n:Nat) (v:Aa) (BB:Bool) (C7:Option (Nat×Aa)) (ver:Nat) (cells:List Aa) (owned:List Nat)
 |load (n:Option Nat) (p:Aa) (dst:Option Nat)
 |store (n:Nat) (p v:Aa)
 |alloc (n:Nat) (v:Aa) (dst:Option Nat)
 |call (f:FuncId) (args:List Aa) (dst:Option Nat)
 |Es (g:Aa) (args:List Aa) (dst:Option Nat)
 |Cx (f:FuncId) (args:List Aa) (dst:Option Nat)
 |N4 (dst:Option Nat)
 |Js (m k v:Aa)
 |Ly (zero:Aa) (ok:Bool) (m k:Aa) (dst:Option Nat)
 |make (size bytes:Nat) (zero:List Aa) (len cap:Aa) (dst:Option Nat)
 |IV (size bytes:Nat) (s x:Aa) (dst:Option Nat) (C7:Option (Nat×Aa))
 |FC (size bytes:Nat) (s x:Aa) (dst:Option Nat)
 |FD (size bytes:Nat) (s x:Aa) (dst:Option Nat) (C7:Option (Nat×Aa))
 |ES (s:Aa) (dst:Option Nat)
 |UF (v:Aa) (dst:Option Nat)
 |mem (o:qQ) (args:List Aa) (dst:Option Nat)
def BI(P:Program)(t:TypeId):Option Nat:=(P.info? t).map (·.size)
def It(P:Program)(t:TypeId):Option Nat:=(P.info? t).map (·.bytes)
def Et(P:Program)(t:TypeId):Option (Option Nat):=
 match P.underlying t with
 |some (.struct _)|some (.array _ _)=>(BI P t).map some
 |some _=>some none
 |none=>none
def FW(P:Program)(t:TypeId):Option Aa:=((P.info? t).bind (·.zero)).bind Jl
def SI(rec:TypeId->Option (List FK)):List Field->Nat->Option (List FK)
 |[],_=>some []
 |f::fs,off=>if f.name≠ "_"/\f.offset=off then match rec f.type with
   |some ks=>(SI rec fs (off+ks.length)).map (ks++·)
   |none=>none
  else none
def M0(P:Program):Nat->TypeId->Option (List FK)
 |0,_=>none
 |d+1,t=>
  let one (k:FK):Option (List FK):=if BI P t=some 1 then some [k] else none
  match P.underlying t with
  |some .bool=>one .b
  |some (.int _)=>one .i
  |some .string=>one .s
  |some (.struct fs)=>match SI (M0 P d) fs.toList 0 with
   |some ks=>if BI P t=some ks.length/\P.stoodInHeld t=false then some ks else none
   |none=>none
  |_=>none
def GW(P:Program)(s:TypeId)(f:Nat):Option (Nat×Option Nat):=
 match P.underlying s with
 |some (.struct fs)=>match fs[f]? with
  |some fd=>match BI P fd.type,Et P fd.type with
   |some (_+1),some a=>some (fd.offset,a)
   |_,_=>none
  |none=>none
 |_=>none
def Dv(C:Fo)(U:Bu):Operand->Option DN
 | .tmp t=>some (U.at t)
 | .const (.bool b)=>some (.MO b)
 | .const (.slice none 0 0)=>some (.BB .slnil)
 | .const v=>(Jl v).map .val
 | .global g=>(C.FV g).map λcs=> .val (.B3 cs)
 | .func f=>some (.val (.func (.func f) [] []))
def Ed(C:Fo)(U:Bu)(x:Operand):Option Aa:=(Dv C U x).bind DN.Ga
def A9(C:Fo)(U:Bu):List Operand->Option (List Aa)
 |[]=>some []
 |x::xs=>match Ed C U x,A9 C U xs with
  |some v,some vs=>some (v::vs)
  |_,_=>none
def qW(ops:List Oper)(d:Nat):Bool:=
 ops.any λo=>match o.op with
  | .call c=>(match c.callee with| .builtin .append=>true|_=>false)&&(match(c.args[0]?:Option Operand) with|some (.tmp t)=>t==d|_=>false)
  |_=>false
def GX:DN->Option DN
 | .val v=>some (.val v)
 | .MO b=>some (.MO b)
 | .BB v=>some (.val v)
 | .Eo s o=>some (.Eo s o)
 |_=>none
def Pc(x:Operand)(v:Aa):List (Nat×DN):=
 match x with
 | .tmp s=>[(s,.val v)]
 |_=>[]
def I3(C:Fo)(U:Bu)(x:Operand)(d:Nat)(take:Bool):Option D3:=
 match x,Dv C U x with
 | .tmp s,some (.box _ _ _)=>some (.pure [(d,.Eo s 0)])
 | .const _,some sl=>some (.pure [(d,sl)])
 |x,some (.BB v)=>if take then some (.pure (Pc x v++[(d,.BB v)])) else(GX (.BB v)).map λs=> .pure [(d,s)]
 |_,some s=>(GX s).map λs=> .pure [(d,s)]
 |_,none=>none
def SJ(cs:List Aa):List Nat:=(List.range cs.length).filter λi=>match cs.getD i .nilIface with| .slnil=>true|_=>false
def Lh(U:Bu)(ds:List Nat):Bool:=U.all λs=>match s with| .Eo s _=> !ds.contains s|_=>true
def Bu.drop(U:Bu)(ds:List Nat):Bu:=match ds with|[]=>U|ds=>U.map λs=>match s with| .Eo s o=>if ds.contains s then .undef else .Eo s o|s=>s
def Rg(C:Fo)(fid:FuncId)(t:TypeId)(v:Aa)(d:Nat):Option D3:=
 match BI C.P t with
 |none=>none
 |some n=>if n=0 then none else match C.kind fid d with
  | .MY=>some (.box n v d)
  | .heap=>some (.alloc n v (some d))
inductive mo where
 |MY (s off ver:Nat) (cells:List Aa) (BB:List Nat)
 |ptr (p:Aa)
def Fe(C:Fo)(U:Bu)(x:Operand):Option mo:=
 match x,Dv C U x with
 | .tmp s,some (.box ver cs ow)=>some (.MY s 0 ver cs ow)
 |_,some (.Eo s o)=>match U.at s with
  | .box ver cs ow=>some (.MY s o ver cs ow)
  |_=>none
 |_,some s=>s.Ga.map .ptr
 |_,none=>none
def CP(U:Bu):Operand->Option (Nat×Aa)
 | .tmp s=>match U.at s with
  | .BB v=>some (s,v)
  |_=>none
 |_=>none
def Jt(C:Fo)(U:Bu)(x:Operand):Bool:=match Dv C U x with|some (.BB _)=>true|_=>false
def JO(C:Fo)(U:Bu)(t:TypeId)(x:Operand)(d:Nat)(take:Bool):Option D3:=
 match Et C.P t,Fe C U x with
 |some n,some (.ptr p)=>some (.load n p (some d))
 |some none,some (.MY s o ver cs ow)=>
  if o<cs.length then
   let v:=cs.getD o .nilIface
   if ow.contains o&& !(ow.erase o).contains o&&take then some (.pure [(s,.box (ver+1) cs (ow.erase o)),(d,.BB v)])
   else some (.pure [(d,.val v)])
  else none
 |some (some n),some (.MY _ o _ cs _)=>if o+n<=cs.length then some (.pure [(d,.val (.agg ((cs.drop o).take n)))]) else none
 |_,_=>none
def HS(C:Fo)(U:Bu)(t:TypeId)(x y:Operand):Option D3:=
 match BI C.P t,Et C.P t,Fe C U x,Ed C U y with
 |some (n+1),_,some (.ptr p),some v=>some (.store (n+1) p v)
 |some (n+1),some a,some (.MY s o ver cs ow),some v=>
  if o+(n+1)<=cs.length then
   let BB:=a.isNone&&Jt C U y
   some (.Lg s o (n+1) v BB (if BB then CP U y else none) ver cs ow)
  else none
 |_,_,_,_=>none
def Qp(P:Program)(t:TypeId)(neg:Bool)(u:TypeDesc):Option UA:=
 match u with
 | .bool=>some (.beq neg)
 | .struct _=>if P.eqGuardType P.depth t=false then(M0 P 20 t).map (.geq neg) else none
 | .pointer e=>if(BI P e).getD 0=0 then none else some (.UB neg)
 | .slice _=>some (.Gb neg .sl)
 | .func _ _ _=>some (.Gb neg .fn)
 | .map _ _=>some (.Gb neg .mp)
 |_=>none
def NL(P:Program)(op:BinOp)(t:TypeId):Option UA:=
 match P.underlying t with
 |some (.int _)=>some (.int op)
 |some .string=>some (.str op)
 |some u=>match op with
  | .eql=>Qp P t false u
  | .neq=>Qp P t true u
  |_=>none
 |none=>none
def Qq(p:UA)(dst:Option Nat):Option (List Aa)->Option D3
 |some args=>some (.op p args dst false none)
 |none=>none
def Iu(P:Program)(t:TypeId):List (Nat×Operand)->Option (List (Nat×Nat))
 |[]=>some []
 |(i,_)::rest=>match P.underlying t with
  |some (.struct fs)=>match fs[i]? with
   |some f=>match BI P f.type,Iu P t rest with
    |some n,some r=>some ((f.offset,n)::r)
    |_,_=>none
   |none=>none
  |some (.array len e)=>if i<len then match BI P e,Iu P t rest with
    |some n,some r=>some ((i*n,n)::r)
    |_,_=>none
   else none
  |_=>none
def Kl(P:Program)(t:TypeId):Bool:=
 match P.info? t with
 |some i=>match i.zero with
  |some z=>z.cells.size==i.size
  |none=>false
 |none=>false
def Sk(P:Program)(t:TypeId):Bool:=
 match P.underlying t with
 |some (.struct fs)=>fs.toList.all λf=>(BI P f.type).isSome
 |some (.array _ e)=>(BI P e).isSome
 |_=>false
def Qr(o:qQ)(dst:Option Nat):Option (List Aa)->Option D3
 |some args=>some (.mem o args dst)
 |none=>none
def OA(C:Fo)(fid:FuncId)(U:Bu)(c:Call)(dst:Option Nat):Option D3:=
 match c.callee with
 | .builtin .len=>match c.argTypes[0]? with
  |some t=>match C.P.underlying t with
   |some .string=>Qq (.len true) dst (A9 C U c.args.toList)
   |some (.slice _)=>Qq (.len false) dst (A9 C U c.args.toList)
   |_=>none
  |none=>none
 | .builtin .append=>match c.argTypes[0]?,c.argTypes[1]?,c.args.toList with
  |some t,some t',[s,x]=>match C.P.underlying t,C.P.underlying t' with
   |some (.slice e),some (.slice _)|some (.slice e),some .string=>match BI C.P e,It C.P e with
    |some (n+1),some (b+1)=>if Kl C.P e then match A9 C U [s,x] with
      |some [v,u]=>if Jt C U s then
        (if(dst.map (C.mF fid)).getD false then some (.IV (n+1) (b+1) v u dst (CP U s))
        else if(dst.map (C.Ww fid)).getD false then some (.FD (n+1) (b+1) v u dst (CP U s))
        else some (.op (.append (n+1) (b+1)) [v,u] dst true (CP U s)))
       else if(dst.map (C.mF fid)).getD false then some (.FC (n+1) (b+1) v u dst) else none
      |_=>none
     else none
    |_,_=>none
   |_,_=>none
  |_,_,_=>none
 | .builtin .copy=>match c.argTypes[0]?,c.argTypes[1]?,c.args.toList with
  |some t,some t',[s,x]=>match C.P.underlying t,C.P.underlying t' with
   |some (.slice e),some (.slice _)|some (.slice e),some .string=>match BI C.P e with
    |some (n+1)=>Qr (.copy (n+1)) dst (A9 C U [s,x])
    |_=>none
   |_,_=>none
  |_,_,_=>none
 | .builtin .clear=>match c.argTypes[0]?,c.args.toList with
  |some t,[s]=>match C.P.underlying t with
   |some (.slice e)=>match BI C.P e,FW C.P e with
    |some (n+1),some z=>Qr (.clear (n+1) z.cells) dst (A9 C U [s])
    |_,_=>none
   |_=>none
  |_,_=>none
 | .builtin .max=>if c.args.size=2 then Qq (.JM true) dst (A9 C U c.args.toList) else none
 | .builtin .min=>if c.args.size=2 then Qq (.JM false) dst (A9 C U c.args.toList) else none
 | .value (.func f)=>if C.MZ f then(match c.args.toList with
  |[s,i,v]=>if Jt C U v then Qr .mE dst (A9 C U [s,i,v]) else none
  |_=>none) else if DX (C.U_ fid f)=f then(A9 C U c.args.toList).map λargs=>if C.gp (C.U_ fid f) then .Cx (C.U_ fid f) args dst else .call (C.U_ fid f) args dst else none
 | .value g=>match Ed C U g,A9 C U c.args.toList with
  |some g,some args=>some (.Es g args dst)
  |_,_=>none
 |_=>none
def SK(C:Fo)(src dst:TypeId):Option (Option UA):=
 match C.P.underlying src,C.P.underlying dst with
 |some (.int _),some (.int k)=>some (some (.conv k))
 |some (.int _),some .string=>some (some .i2s)
 |some .string,some .string=>some none
 |some (.slice e),some .string=>match C.P.underlying e with
  |some (.int .u8)=>some (some .UF)
  |_=>none
 |some .string,some (.slice e)=>match C.P.underlying e,BI C.P e,It C.P e with
  |some (.int .u8),some 1,some 1=>some (some .zc)
  |_,_,_=>none
 |_,_=>none
def Ff(C:Fo)(U:Bu):List Operand->Option (List Aa×List (Nat×List Aa))
 |[]=>some ([],[])
 |x::xs=>match Ff C U xs with
  |none=>none
  |some (vs,fz)=>match x,Dv C U x with
   | .tmp s,some (.box _ cs _)=>if(fz.map (·.1)).contains s then none else some (.B3 cs::vs,(s,cs)::fz)
   |_,some sl=>match sl.Ga with
    |some v=>some (v::vs,fz)
    |none=>none
   |_,none=>none
def Fg(C:Fo)(fid:FuncId)(ops:List Oper)(U:Bu)(o:Oper):Option D3:=
 match o.op with
 | .move x=>match o.dst with
  |some d=>I3 C U x d (qW ops d)
  |none=>none
 | .assign x=>match o.dst with
  |some d=>I3 C U x d true
  |none=>none
 | .pick c a b=>match Dv C U c,o.dst with
  |some (.MO true),some d=>I3 C U a d false
  |some (.MO false),some d=>I3 C U b d false
  |_,dst=>Qq .pick dst (A9 C U [c,a,b])
 | .alloc t=>match o.dst,FW C.P t with
  |some d,some z=>match C.kind fid d with
   | .MY=>if BI C.P t=some z.cells.length/\z.cells≠[] then some (.pure [(d,.box 0 z.cells (SJ z.cells))]) else none
   |_=>Rg C fid t z d
  |_,_=>none
 | .box t x=>match o.dst,Ed C U x with
  |some d,some v=>Rg C fid t v d
  |_,_=>none
 | .build t parts=>match FW C.P t,Iu C.P t parts.toList with
  |some z,some ps=>if Sk C.P t then Qq (.B0 z.cells ps) o.dst (A9 C U (parts.toList.map (·.2))) else none
  |_,_=>none
 | .buildSlice t len parts=>match C.P.underlying t with
  |some (.slice e)=>match BI C.P e with
   |some (n+1)=>if parts.toList.map (·.1)=List.range len/\Kl C.P e=true then if len=0/\(o.dst.map (C.mF fid)).getD false=true then some (.op (.Fb (n+1)) [] o.dst true none) else(A9 C U (parts.toList.map (·.2))).map λargs=> .op (.Cb (n+1)) args o.dst true none else none
   |_=>none
  |_=>none
 | .load t x=>match o.dst with
  |some d=>JO C U t x d (qW ops d)
  |none=>none
 | .store t x y=>match o.dst with
  |none=>HS C U t x y
  |some _=>none
 | .nilCheck x=>match x,Dv C U x,o.dst with
  | .tmp s,some (.box _ _ _),some d=>some (.pure [(d,.Eo s 0)])
  |_,some (.Eo s k),some d=>some (.pure [(d,.Eo s k)])
  |x,_,dst=>Qq .JL dst (A9 C U [x])
 | .binOp op t x y _=>match NL C.P op t with
  |some p=>Qq p o.dst (A9 C U [x,y])
  |none=>none
 | .unOp op _ x=>Qq (.un op) o.dst (A9 C U [x])
 | .convert src dst x=>match SK C src dst with
  |some (some .UF)=>(Ed C U x).map λv=> .UF v o.dst
  |some (some .zc)=>if(o.dst.map (C.mF fid)).getD false then(Ed C U x).map λv=> .ES v o.dst else Qq .zc o.dst (A9 C U [x])
  |some (some p)=>Qq p o.dst (A9 C U [x])
  |_=>none
 | .makeFunc fn first captured=>match o.dst,A9 C U first.toList,Ff C U captured.toList with
  |some d,some a,some (b,fz)=>some (.J4 fn a b fz d)
  |_,_,_=>none
 | .makeMap _ none=>some (.N4 o.dst)
 | .makeSlice t l c=>match C.P.underlying t with
  |some (.slice e)=>match BI C.P e,It C.P e,FW C.P e,Ed C U l,Ed C U c with
   |some (n+1),some (b+1),some z,some l,some c=>some (.make (n+1) (b+1) z.cells l c o.dst)
   |_,_,_,_,_=>none
  |_=>none
 | .insert t m k v| .mapUpdate t m k v=>match C.P.underlying t with
  |some (.map kt _)=>match o.dst,C.P.underlying kt,A9 C U [m,k,v] with
   |none,some .string,some [m,k,v]=>some (.Js m k v)
   |none,some (.int .i64),some [m,k,v]=>some (.mem .mi [m,k,v] none)
   |_,_,_=>none
  |_=>none
 | .lookup t m k ok=>match C.P.underlying t with
  |some (.map kt e)=>match C.P.underlying kt,FW C.P e,A9 C U [m,k] with
   |some .string,some z,some [m,k]=>some (.Ly z ok m k o.dst)
   |some (.int .i64),some z,some [m,k]=>some (.mem (.yW z ok) [m,k] o.dst)
   |_,_,_=>none
  |_=>none
 | .slice t x (some lo) (some hi) (some mx)=>match C.P.underlying t with
  |some (.slice e)=>match BI C.P e with
   |some (n+1)=>Qr (.aY (n+1)) o.dst (A9 C U [x,lo,hi,mx])
   |_=>none
  |_=>none
 | .makeInterface t x=>match C.P.underlying t with
  |some (.interface _)=>none
  |some _=>Qr (.S_ t) o.dst (A9 C U [x])
  |none=>none
 | .mapEntry t m k=>match C.P.underlying t with
  |some (.map kt e)=>match C.P.underlying kt,FW C.P e with
   |some (.int .i64),some z=>Qr (.L6 z) o.dst (A9 C U [m,k])
   |some .string,some z=>Qr (.qR z) o.dst (A9 C U [m,k])
   |_,_=>none
  |_=>none
 | .entryStore _ m s v=>match o.dst with
  |none=>Qr .Lc none (A9 C U [m,s,v])
  |some _=>none
 | .slice t x lo hi none=>match C.P.underlying t with
  |some .string=>Qq (.Qo 0 true lo.isSome hi.isSome) o.dst (A9 C U (x::(lo.toList++hi.toList)))
  |some (.slice e)=>match BI C.P e with
   |some (n+1)=>if(o.dst.map (C.mF fid)).getD false then Qr (.mD (n+1) lo.isSome hi.isSome) o.dst (A9 C U (x::(lo.toList++hi.toList)))
    else Qq (.Qo (n+1) false lo.isSome hi.isSome) o.dst (A9 C U (x::(lo.toList++hi.toList)))
   |_=>none
  |_=>none
 | .fieldAddr t x f=>match GW C.P t f,o.dst with
  |some (off,_),some d=>match x,Dv C U x with
   | .tmp s,some (.box _ _ _)=>some (.pure [(d,.Eo s off)])
   |_,some (.Eo s k)=>some (.pure [(d,.Eo s (k+off))])
   |x,_=>Qq (.FB off) (some d) (A9 C U [x])
  |_,_=>none
 | .field t x f=>match GW C.P t f with
  |some (off,g)=>Qq (.part off g) o.dst (A9 C U [x])
  |none=>none
 | .indexAddr t x i=>match C.P.underlying t with
  |some (.slice e)=>match BI C.P e with
   |some (n+1)=>Qq (.ER (n+1)) o.dst (A9 C U [x,i])
   |_=>none
  |some (.array len e)=>match BI C.P e with
   |some (n+1)=>if len<=1 then none else Qq (.SB len (n+1)) o.dst (A9 C U [x,i])
   |_=>none
  |_=>none
 | .index t x i=>match C.P.underlying t with
  |some .string=>Qq .Yo o.dst (A9 C U [x,i])
  |some (.array len e)=>match BI C.P e,Et C.P e with
   |some (n+1),some g=>Qq (.mj len (n+1) g) o.dst (A9 C U [x,i])
   |_,_=>none
  |_=>none
 | .extract x i=>Qq (.ext i) o.dst (A9 C U [x])
 | .call c=>OA C fid U c o.dst
 |_=>none
def Bu.DE(U:Bu):List (Nat×DN)->Bu
 |[]=>U
 |(s,x)::ws=>Bu.DE (U.set s x) ws
def Bu.put(U:Bu)(dst:Option Nat)(x:DN):Bu:=
 match dst with
 |some d=>U.set d x
 |none=>U
def Bu.C7(U:Bu):Option (Nat×Aa)->Bu
 |some (s,v)=>U.set s (.val v)
 |none=>U
def SL(n:Nat)(cs:List Aa):List Aa:=(List.range n).map λi=>cs.getD i .nilIface
def SM(cs:List Aa)(off n:Nat)(vs:List Aa):List Aa:=cs.take off++vs++cs.drop (off+n)
def Pd(owned:List Nat)(off n:Nat)(BB:Bool):List Nat:=
 let rest:=owned.filter λo=> !(off<=o&&o<off+n)
 if BB then off::rest else rest
def D3.Li(C:Fo)(U:Bu)(K:Bu->IT):D3->IT
 | .pure ws=>K (U.DE ws)
 | .op p args dst BB e=> .op p args λv=>K ((U.C7 e).put dst (if BB then .BB v else .val v))
 | .box n v d=> .cells n v λcs=>K (U.set d (.box 0 (SL n cs) []))
 | .J4 fn a b fz d=>K ((U.DE (fz.map λ(s,cs)=>(s,.val (.B3 cs)))).set d (.val (.func fn a b)))
 | .Lg s off n v BB e ver cells owned=> .cells n v λvs=>K ((U.C7 e).set s (.box (ver+1) (SM cells off n (SL n vs)) (Pd owned off n BB)))
 | .load n p dst=> .load n p λv=>K (U.put dst (.val v))
 | .store n p v=> .store n p v (K U)
 | .alloc n v dst=> .alloc n v λp=>K (U.put dst (.val p))
 | .call f args dst=> .call f args λr=>K (U.put dst (if C.HX f then .BB r else .val r))
 | .Es g args dst=> .Es g args λr=>K (U.put dst (.val r))
 | .Cx f args dst=> .Cx f args λr=>K (U.put dst (.val r))
 | .N4 dst=> .N4 λm=>K (U.put dst (.val m))
 | .Js m k v=> .Js m k v (K U)
 | .Ly z ok m k dst=> .Ly z ok m k λv=>K (U.put dst (.val v))
 | .make z b zero l c dst=> .make z b zero l c λv=>K (U.put dst (.val v))
 | .IV z b s x dst e=> .IV z b s x λv=>K ((U.C7 e).put dst (.val v))
 | .FC z b s x dst=> .FC z b s x λv=>K (U.put dst (.val v))
 | .FD z b s x dst e=> .FD z b s x λv=>K ((U.C7 e).put dst (.BB v))
 | .ES s dst=> .ES s λv=>K (U.put dst (.val v))
 | .UF v dst=> .SC v λv=> .op .UF [v] λu=>K (U.put dst (.val u))
 | .mem o args dst=> .mem o args λv=>K (U.put dst (if o.T_ then .undef else .val v))
def D3.news:D3->List Nat
 | .pure ws=>ws.filterMap λ(s,x)=>match x with| .box 0 _ _=>some s|_=>none
 | .box _ _ d=>[d]
 | .J4 _ _ _ fz _=>fz.map (·.1)
 |_=>[]
inductive V_ where
 |LA (run:Bool)
 |ask (bA:Nat) (v:Aa) (want:Bool)
 |mq
def Ho(ops:List Oper)(U:Bu)(o:Oper):V_:=
 match o.guard with
 |none=> .LA true
 |some (j,want)=>match(ops[j]?).bind (·.dst) with
  |some s=>match U.at s with
   | .MO b=> .LA (b==want)
   | .val v=> .ask s v want
   | .skip=> .LA false
   |_=> .mq
  |none=> .mq
def qX(C:Fo)(fid:FuncId)(ops:List Oper)(U:Bu)(o:Oper)(K:Bu->IT):IT:=
 match Fg C fid ops U o with
 |some r=>r.Li C (U.drop r.news) K
 |none=> .fail
def Qs(C:Fo)(fid:FuncId)(ops:List Oper)(U:Bu)(o:Oper)(K:Bu->IT):IT:=
 match Ho ops U o with
 | .LA true=>qX C fid ops U o K
 | .LA false=>K (U.put o.dst .skip)
 | .ask s v want=>
  let t:=if want then qX C fid ops (U.set s (.MO true)) o K else K (Bu.put (U.set s (.MO true)) o.dst .skip)
  let e:=if want then K (Bu.put (U.set s (.MO false)) o.dst .skip) else qX C fid ops (U.set s (.MO false)) o K
  .AM v t e
 | .mq=> .fail
def Qt:FuncId->Bool
 |_=>false
def Pe(C:Fo)(U:Bu)(o:Oper):List (Nat×List Aa):=
 match o.op with
 | .call c=>(match c.callee with
  | .value (.func f)=>if Qt f then(match Ff C U c.args.toList with|some (_,fz)=>fz|none=>[]) else[]
  |_=>[])
 |_=>[]
def mr(C:Fo)(U:Bu)(o:Oper):Bu:=(U.drop ((Pe C U o).map (·.1))).DE ((Pe C U o).map λ(s,cs)=>(s,.val (.B3 cs)))
def gL(C:Fo)(fid:FuncId)(ops:List Oper):List Oper->Bu->(Bu->IT)->IT
 |[],U,K=>K U
 |o::rest,U,K=>Qs C fid ops (mr C U o) o λU=>gL C fid ops rest U K
end Go.Am
end
section
namespace Go.Am
def Oper.RR(o:Oper):List Nat:=o.after.toList.filterMap λe=>if Region.binds .any e then some e.on else none
def zd(i:Nat):Nat:=2^i
def Ju(Dh:List Nat):List Oper->List Nat
 |[]=>Dh
 |o::rest=>Ju (Dh++[(Oper.RR o).foldl (λm e=>m|||zd e|||Dh.getD e 0) 0]) rest
def SO(ops:List Oper):List Nat:=Ju [] ops
def DP(an:List Nat)(i j:Nat):Bool:=(an.getD j 0).testBit i
def gq(o:Oper):Bool:=
 match o.op with
 | .call c=>(match c.callee with| .builtin .copy| .builtin .clear=>true| .builtin _=>false|_=>true)
 | .store _ _ _| .insert _ _ _ _| .mapUpdate _ _ _ _| .makeMap _ _| .makeSlice _ _ _| .mapEntry _ _ _| .entryStore _ _ _ _=>true
 |_=>false
def SP(all:List Oper)(Dh:List Nat):List Oper->List Nat
 |[]=>Dh
 |o::rest=>SP all (Dh++[(Oper.RR o).foldl (λm e=>Nat.max m (Dh.getD e 0+(match all[e]? with|some x=>if gq x then 1 else 0|none=>0))) 0]) rest
def yX(ops:List Oper):List Nat:=
 let st:=SP ops [] ops
 let idx:=List.range ops.length
 let O6:=λi=>match ops[i]? with|some o=>gq o|none=>false
 (List.range (ops.length+1)).flatMap λs=>(idx.filter λi=>st.getD i 0==s&& !O6 i)++(idx.filter λi=>st.getD i 0==s&&O6 i)
structure FP where
 rs:List Nat
 wf:List Nat
 hl:Bool
 O6:Bool
 news:List Nat
 lr:List Nat
 Qu:Bool
 deriving Inhabited
def Iv(xs:List Operand):List Nat:=xs.filterMap λ| .tmp t=>some t|_=>none
def L7(C:Fo)(U:Bu)(x:Operand):Option Nat:=
 match Fe C U x with
 |some (.MY s _ _ _ _)=>some s
 |_=>none
def GG(C:Fo)(U:Bu)(o:Oper):List Nat:=
 match o.op with
 | .load _ x=>(L7 C U x).toList
 | .store _ x _=>(L7 C U x).toList
 | .makeFunc _ _ captured=>Iv captured.toList
 |_=>[]
def D3.wf:D3->List Nat
 | .pure ws=>ws.map (·.1)
 | .op _ _ dst _ a=>dst.toList++(a.map (·.1)).toList
 | .box _ _ d=>[d]
 | .J4 _ _ _ fz d=>d::fz.map (·.1)
 | .Lg s _ _ _ _ a _ _ _=>s::(a.map (·.1)).toList
 | .load _ _ dst| .alloc _ _ dst| .call _ _ dst| .Es _ _ dst| .Cx _ _ dst| .N4 dst| .Ly _ _ _ _ dst| .make _ _ _ _ _ dst| .ES _ dst| .UF _ dst| .FC _ _ _ _ dst| .mem _ _ dst=>dst.toList
 | .IV _ _ _ _ dst a| .FD _ _ _ _ dst a=>dst.toList++(a.map (·.1)).toList
 | .store _ _ _| .Js _ _ _=>[]
def D3.hl:D3->Bool
 | .load _ _ _| .Ly _ _ _ _ _=>true
 |_=>false
def D3.O6:D3->Bool
 | .store _ _ _| .alloc _ _ _| .call _ _ _| .Es _ _ _| .N4 _| .Js _ _ _| .make _ _ _ _ _ _| .IV _ _ _ _ _ _| .ES _ _| .UF _ _| .FC _ _ _ _ _| .FD _ _ _ _ _ _| .mem _ _ _=>true
 |_=>false
def EH(ops:List Oper)(o:Oper):List Nat:=
 match o.guard with
 |none=>[]
 |some (j,_)=>((ops[j]?).bind (·.dst)).toList
def Sl(xs:List DN):List Nat:=xs.filterMap λ| .Eo t _=>some t|_=>none
def D3.gM:D3->List Nat
 | .pure ws=>Sl (ws.map (·.2))
 |_=>[]
def D3.Qu(U:Bu)(r:D3):Bool:=
 Lh U r.news&&match r with
  | .load _ _ (some d)=>decide (d<U.length)
  | .load _ _ none| .Ly _ _ _ _ _| .J4 _ _ _ (_::_) _=>false
  |_=>true
def RS(C:Fo)(ops:List Oper)(U:Bu)(o:Oper)(r:Option D3):FP:=
 match r with
 |none=>{rs:=EH ops o,wf:=o.dst.toList,hl:=false,O6:=false,news:=[],lr:=Sl (o.dst.toList.map U.at),Qu:=true}
 |some r=>{rs:=EH ops o++Iv o.op.operands.toList++GG C U o,wf:=r.wf++o.dst.toList,hl:=r.hl,O6:=r.O6,news:=r.news,lr:=Sl ((r.wf++o.dst.toList).map U.at)++r.gM,Qu:=r.Qu U}
def Rh(a b:List Nat):Bool:=a.any λx=>b.contains x
def FP.apart(x y:FP):Bool:= !Rh x.wf (y.rs++y.wf)&& !Rh y.wf x.rs&& !Rh x.lr y.news&& !Rh y.lr x.news
def OB(x y:FP):Bool:=x.Qu&&y.Qu&&x.apart y&& !(x.O6&&y.O6)&& !(x.O6&&y.hl)
def SQ(n:Nat)(an:List Nat)(a:List (Nat×FP)):Bool:=
 go a&&(List.range n).all (λi=>(a.map (·.1)).contains i)
where
 go:List (Nat×FP)->Bool
  |[]=>true
  |(i,f)::rest=>rest.all (λ(j,g)=>i != j&& !DP an j i&&(DP an i j||OB f g))&&go rest
structure IX where
 idx:Nat
 n:Option Nat
 p:Aa
 v:Aa
def Pf(an:List Nat)(i:Nat):List IX->IT->IT
 |[],t=>t
 |f::fs,t=>if DP an f.idx i then Pf an i fs t else .load f.n f.p λv=> .same f.v v (Pf an i fs t)
def KP(i:Nat)(r:D3)(U:Bu)(fl:List IX):List IX:=
 match r with
 | .load n p (some d)=>match U.at d with
  | .val v=>{idx:=i,n,p,v}::fl
  |_=>fl
 |_=>fl
def Pg(ops:List Oper)(i:Nat):Bool:=ops.any λo=>match o.guard with|some (j,_)=>j==i|none=>false
def gN(d:Option Nat)(U:Bu)(K:Bu->IT):IT:=
 match d with
 |none=>K U
 |some d=>match U.at d with
  | .val v=> .AM v (K (U.set d (.MO true))) (K (U.set d (.MO false)))
  |_=>K U
def OC(C:Fo)(fid:FuncId)(ops:List Oper)(an:List Nat):List Nat->List (Nat×FP)->List IX->Bu->(Bu->IT)->IT
 |[],a,_,U,K=>if SQ ops.length an a.reverse then K U else .fail
 |i::rest,a,fl,U,K=>
  match ops[i]? with
  |none=> .fail
  |some o=>match Ho ops U o with
   | .LA true=>match Fg C fid ops U o with
    |none=> .fail
    |some r=>r.Li C (U.drop r.news) λc=>
     let next:=gN (if Pg ops i then o.dst else none) c λb=>OC C fid ops an rest ((i,RS C ops U o (some r))::a) (KP i r c fl) b K
     if r.O6 then Pf an i fl next else next
   | .LA false=>OC C fid ops an rest ((i,RS C ops U o none)::a) fl (U.put o.dst .skip) K
   |_=> .fail
def DQ(ops:List Oper)(o:Oper):List Nat:=
 o.dst.toList++match o.op with
  | .move (.tmp s)=>(match o.dst with|some d=>if qW ops d then[s] else[]|none=>[])
  | .assign (.tmp s)=>[s]
  | .store _ _ (.tmp s)=>[s]
  | .call c=>(match c.callee with| .builtin .append=>Iv c.args.toList| .value (.func f)=>if Qt f then Iv c.args.toList else[]|_=>[])
  | .makeFunc _ _ captured=>Iv captured.toList
  |_=>[]
def CH:Code->List Nat
 | .region _ ops _=>ops.toList.flatMap (DQ ops.toList)
 | .seq a b=>CH a++CH b
 | .cond _ a b=>CH a++CH b
 | .block _ b=>CH b
 | .loop b=>CH b
 | .scope b=>CH b
 |_=>[]
def BQ:Code->List Nat
 | .region _ ops _=>ops.toList.flatMap (EH ops.toList)
 | .seq a b=>BQ a++BQ b
 | .cond (.tmp s) a b=>s::(BQ a++BQ b)
 | .cond _ a b=>BQ a++BQ b
 | .block _ b=>BQ b
 | .loop b=>BQ b
 | .scope b=>BQ b
 |_=>[]
def Bu.clear(U:Bu):List Nat->Bu
 |[]=>U
 |s::ss=>Bu.clear (U.set s .undef) ss
def FE:Code->Option Nat
 | .region id _ _=>some id
 | .seq a b=>(FE a).orElse λ_=>FE b
 | .cond _ a b=>(FE a).orElse λ_=>FE b
 | .block _ b| .loop b| .scope b=>FE b
 |_=>none
def SR(U:Bu):List (Nat×Sh)->Option (List Aa)
 |[]=>some []
 |(s,a)::l=>
  let v:=match a,U.at s with
   | .val,x=>x.Ga
   | .BB,.BB v=>some v
   | .box n ow,.box _ cs L5=>if cs.length=n/\ow.all (L5.contains ·) then some (.agg cs) else none
   |_,_=>none
  match v,SR U l with
  |some v,some vs=>some (v::vs)
  |_,_=>none
def Vp:DN->Nat
 | .box ver _ _=>ver
 |_=>0
def HY(vs:List Aa):List (Nat×Sh)->Nat->Bu->(Bu->IT)->IT
 |[],_,U,K=>K U
 |(s,.val)::l,i,U,K=>HY vs l (i+1) (U.set s (.val (vs.getD i .nilIface))) K
 |(s,.BB)::l,i,U,K=>HY vs l (i+1) (U.set s (.BB (vs.getD i .nilIface))) K
 |(s,.box n ow)::l,i,U,K=> .cells n (vs.getD i .nilIface) λcs=>HY vs l (i+1) (U.set s (.box (Vp (U.at s)+1) (SL n cs) ow)) K
def bC(U:Bu)(a:Bu)(l:List (Nat×Sh)):Bool:=
 (List.range U.length).all λs=>match U.at s with
  | .box ver _ _=>(l.map (·.1)).contains s||(match a.at s with| .box Fh _ _=>Fh==ver|_=>false)
  | .Eo _ _=>(l.map (·.1)).contains s||(match a.at s with| .Eo _ _=>true|_=>false)
  |_=>true
def finish(b:Bu)(l:List (Nat×Sh))(x:Fc)(a:Bu):IT:=
 if bC b a l then match SR a l with
  |some vs=> .ret x vs
  |none=> .fail
 else .fail
def qY(l:List (Nat×Sh))(ws:List Nat)(U:Bu):Bool:=l.all λ(s,_)=>ws.contains s||(match U.at s with| .box _ _ _=>true|_=>false)
def Wx(ops:List Oper):Bool:=ops.zipIdx.all λ(o,i)=>(Oper.RR o).all λe=>decide (e<i)
def Ph(C:Fo)(fid:FuncId)(ops:List Oper)(draw:Bool)(U:Bu)(K:Bu->IT):IT:=
 if draw then(if Wx ops then OC C fid ops (SO ops) (yX ops) [] [] U K else .fail) else gL C fid ops ops U K
def Wy(key:Nat)(U:Bu)(ws:List Nat)(l:List (Nat×Sh))(t:(Fc->Bu->IT)->IT)(K:Fc->Bu->IT):IT:=
 let b:=U.clear ws
 if qY l ws U then .DW key (t λx a=>finish b l x a) λx vs=>HY vs l 0 b λa=>K x a else .fail
def gr(K:Fc->Bu->IT):Fc->Bu->IT
 | .normal,_=> .fail
 | .exit i,U=>K (.exit i) U
 | .ret,U=>K .ret U
def Fi(C:Fo)(fid:FuncId):Code->Bu->(Fc->Bu->IT)->IT
 | .skip,U,K=>K .normal U
 | .region id ops draw,U,K=>match C.gm fid id with
  |none=>Ph C fid ops.toList draw U (K .normal)
  |some l=>Wy (200000+id) U (ops.toList.flatMap (DQ ops.toList)++ops.toList.flatMap (EH ops.toList)) l (λK=>Ph C fid ops.toList draw U (K .normal)) K
 | .seq a b,U,K=>Fi C fid a U λx d=>match x with
  | .normal=>Fi C fid b d K
  | .exit i=>K (.exit i) d
  | .ret=>K .ret d
 | .cond c a b,U,K=>match c,Dv C U c with
  |_,some (.MO true)=>Fi C fid a U K
  |_,some (.MO false)=>Fi C fid b U K
  | .tmp s,some (.val v)=>match C.gl fid s with
   |none=> .AM v (Fi C fid a (U.set s (.MO true)) K) (Fi C fid b (U.set s (.MO false)) K)
   |some l=>Wy (100000+s) U (s::(CH a++CH b++BQ a++BQ b)) l (λK=> .AM v (Fi C fid a (U.set s (.MO true)) K) (Fi C fid b (U.set s (.MO false)) K)) K
  |_,_=> .fail
 | .block id b,U,K=>Fi C fid b U λx d=>match x with
  | .normal=>K .normal d
  | .exit i=>if i=id then K .normal d else K (.exit i) d
  | .ret=>K .ret d
 | .loop b,U,K=>
  let l:=C.mm fid ((FE b).getD 0)
  let ws:=CH b++BQ b
  let f:=U.clear ws
  if qY l ws U then match SR U l with
   |none=> .fail
   |some init=> .loop ((FE b).getD 0) init (λvs=>HY vs l 0 f λe=>Fi C fid b e λx d=>finish f l x d) λx vs=>HY vs l 0 f λd=>gr K x d
  else .fail
 | .exit id,U,K=>K (.exit id) U
 | .ret,U,K=>K .ret U
 | .scope b,U,K=>Fi C fid b U K
 | .label _,U,K=>K .normal U
 |_,_,_=> .fail
def Fx(C:Fo)(U:Bu):List ResultVar->List Aa->(List Aa->IT)->IT
 |[],Dh,K=>K Dh.reverse
 | .tmp t::rs,Dh,K=>match(U.at t).Ga with
  |some v=>Fx C U rs (v::Dh) K
  |none=> .fail
 | .cell a t::rs,Dh,K=>match Et C.P t,Fe C U (.tmp a) with
  |some none,some (.MY _ o _ cs _)=>if o<cs.length then Fx C U rs (cs.getD o .nilIface::Dh) K else .fail
  |some (some n),some (.MY _ o _ cs _)=>if o+n<=cs.length then Fx C U rs (.agg ((cs.drop o).take n)::Dh) K else .fail
  |some n,some (.ptr p)=> .load n p λv=>Fx C U rs (v::Dh) K
  |_,_=> .fail
def NM(U:Bu):List ResultVar->Bool
 |[.tmp t]=>match U.at t with| .BB _=>true|_=>false
 |_=>false
def gO(C:Fo)(U:Bu):List (Nat×Nat)->IT->IT
 |[],t=>t
 |(s,off)::l,t=>match(U.at s).Ga with
  |some p=> .HJ off p (gO C U l t)
  |none=> .fail
def M1:List Aa->List Aa->(List Aa->IT)->IT
 |[],Dh,K=>K Dh.reverse
 |v::vs,Dh,K=> .SC v λv=>M1 vs (v::Dh) K
def Ri:List Aa->IT
 |[v]=> .ret .ret [v]
 |vs=> .ret .ret [.tuple vs]
def Ys(C:Fo)(fid:FuncId)(fn:Func)(U:Bu):IT:=
 if C.HX fid&& !NM U fn.results.toList then .fail
 else gO C U (C.qV fid) (Fx C U fn.results.toList [] λvs=>if C.qU fid then M1 vs [] Ri else Ri vs)
def qZ(C:Fo)(fid:FuncId)(fn:Func)(args:List Aa):IT:=
 match fn.body with
 |none=> .fail
 |some c=>Fi C fid c (args.map .val++List.replicate (fn.ntmps-args.length) .undef) λx U=>match x with
  | .normal=>Ys C fid fn U
  | .exit _=> .fail
  | .ret=>Ys C fid fn U
def W_(C:Fo)(fid:FuncId)(args:List Aa):IT:=
 match C.P.funcs[DX fid]? with
 |some fn=>if fn.name== "runtime.NumGoroutine" then .fail else qZ C fid fn args
 |none=> .fail
def BY(C:Fo)(fid:FuncId)(args:List Aa):IT:=
 match C.mn fid with
 |some p=>p args
 |none=>W_ C fid args
abbrev g(l:List Aa)(i:Nat):Aa:=l.getD i .nilIface
abbrev I(n:Int):Aa:= .int .i64 n
abbrev S(s:Au):Aa:= .str s
abbrev tt:Aa:= .bool true
abbrev ff:Aa:= .bool false
abbrev Fo.run(C:Fo):Nat->IT->Ah->Option IW:=IT.run (BY C)
end Go.Am
end
end
section
namespace Go.Am
def IT.I4{fn:FuncId->List Aa->IT}{rec X_:IT->Ah->Option IW}(hr:∀t h r,rec t h=some r->X_ t h=some r):
  ∀(t:IT) (h:Ah) (r:IW),IT.step fn rec t h=some r->IT.step fn X_ t h=some r:=by
 intro t;induction t with
 |ret x vs=>intro h r d;simpa[IT.step] using d
 |fail=>intro h r d;simp[IT.step] at d
 |op o args k ih=>
  intro h r d;simp only[IT.step] at d⊢;split at d;.exact ih _ _ _ d
  .cases d
 |cells n v k ih=>
  intro h r d;simp only[IT.step] at d⊢;split at d;.rename_i hc;rw[Ad hc];exact ih _ _ _ d
  .cases d
 |AM c t e i q=>
  intro h r d;simp only[IT.step] at d⊢;split at d;.exact i _ _ d
  .exact q _ _ d
  .cases d
 |load n p k ih=>
  intro h r d;simp only[IT.step] at d⊢;split at d;.exact ih _ _ _ d
  .cases d
 |store n p v k ih=>
  intro h r d;simp only[IT.step] at d⊢;split at d;.exact ih _ _ d
  .cases d
 |alloc n v k ih=>
  intro h r d;simp only[IT.step] at d⊢;split at d;.exact ih _ _ _ d
  .cases d
 |call f args k ih=>
  intro h r d;simp only[IT.step] at d⊢;split at d;.rename_i h1;rw[hr _ _ _ h1];exact ih _ _ _ d
  .cases d
 |Es g args k ih=>
  intro h r d;simp only[IT.step] at d⊢;split at d
  .rename_i f a ht;split at d;.rename_i h1;simp only[hr _ _ _ h1];exact ih _ _ _ d
   .cases d
  .cases d
 |Cx f args k ih=>
  intro h r d;simp only[IT.step] at d⊢;split at d
  .rename_i HI;rw[Ad HI];split at d
   .rename_i h1;rw[hr _ _ _ h1];split at d;.rename_i gu;simp only[gu,BE];exact ih _ _ _ d
    .cases d
   .cases d
  .cases d
 |loop key init body k l j=>
  intro h r d;simp only[IT.step] at d⊢;split at d;.rename_i h1;rw[l _ _ _ h1];exact hr _ _ _ d
  .rename_i x vs h1 hne hx;rw[l _ _ _ hx];cases x<;>first|exact j _ _ _ _ d|exact absurd rfl hne
  .cases d
 |DW key t k i j=>
  intro h r d;simp only[IT.step] at d⊢;split at d;.rename_i h1;rw[i _ _ h1];exact j _ _ _ _ d
  .cases d
 |same a b k ih=>
  intro h r d;simp only[IT.step] at d⊢;split at d;.rename_i hc;rw[Ad hc];exact ih _ _ d
  .cases d
 |N4 k ih=>intro h r d;simp only[IT.step] at d⊢;exact ih _ _ _ d
 |Js m key v k ih=>
  intro h r d;simp only[IT.step] at d⊢;split at d;.exact ih _ _ d
  .cases d
 |Ly z ok m key k ih=>
  intro h r d;simp only[IT.step] at d⊢;split at d;.exact ih _ _ _ d
  .cases d
 |make size bytes zero len cap k ih=>
  intro h r d;simp only[IT.step] at d⊢;split at d;.exact ih _ _ _ d
  .cases d
 |IV size bytes s x k ih=>
  intro h r d;simp only[IT.step] at d⊢;split at d;.exact ih _ _ _ d
  .cases d
 |ES s k ih=>
  intro h r d;simp only[IT.step] at d⊢;split at d;.exact ih _ _ _ d
  .cases d
 |SC v k ih=>
  intro h r d;simp only[IT.step] at d⊢;split at d;.exact ih _ _ _ d
  .cases d
 |HJ off p k ih=>
  intro h r d;simp only[IT.step] at d⊢;split at d;.exact ih _ _ d
  .cases d
 |FC size bytes s x k ih=>
  intro h r d;simp only[IT.step] at d⊢;split at d;.exact ih _ _ _ d
  .cases d
 |FD size bytes s x k ih=>
  intro h r d;simp only[IT.step] at d⊢;split at d;.exact ih _ _ _ d
  .cases d
 |mem o args k ih=>
  intro h r d;simp only[IT.step] at d⊢;split at d;.exact ih _ _ _ d
  .cases d
 |qS f args k ih=>
  intro h r d;simp only[IT.step] at d⊢;split at d
  .rename_i h1;rw[hr _ _ _ h1];split at d;.rename_i gu;simp only[gu,BE];exact ih _ _ _ d
   .cases d
  .cases d
def IT.q6{fn:FuncId->List Aa->IT}:∀(n:Nat) (t:IT) (h:Ah) (r:IW),IT.run fn n t h=some r->IT.run fn (n+1) t h=some r:=by
 intro n;induction n with
 |zero=>intro t h r a;simp[IT.run] at a
 |succ n ih=>intro t h r a;exact IT.I4 (λt h r=>ih t h r) t h r a
def IT.HA{fn:FuncId->List Aa->IT}{n m:Nat}(hnm:n<=m){t:IT}{h:Ah}{r:IW}(a:IT.run fn n t h=some r):IT.run fn m t h=some r:=by
 induction hnm with
 |refl=>exact a
 |step _ ih=>exact IT.q6 _ _ _ _ ih
abbrev Iw:=Fc->List Aa->Ah->Prop
def W(C:Fo)(t:IT)(Q:Iw)(h:Ah):Prop:=∃n x vs h',C.run n t h=some (x,vs,h')/\Q x vs h'
section
variable{C:Fo}{Q:Iw}{h:Ah}
def W.mono{t:IT}{Q':Iw}(hw:W C t Q h)(hq:∀x vs h',Q x vs h'->Q' x vs h'):W C t Q' h:=
 let⟨n,x,vs,h',hr,q⟩:=hw;⟨n,x,vs,h',hr,hq _ _ _ q⟩
def Y_{x:Fc}{vs:List Aa}(hq:Q x vs h):W C (.ret x vs) Q h:=⟨1,x,vs,h,rfl,hq⟩
def CD{t:IT}(a:∃n x vs h',IT.step (BY C) (C.run n) t h=some (x,vs,h')/\Q x vs h'):W C t Q h:=
 let⟨n,x,vs,h',hr,q⟩:=a;⟨n+1,x,vs,h',hr,q⟩
def W.succ{t:IT}(a:W C t Q h):∃n x vs h',IT.step (BY C) (C.run n) t h=some (x,vs,h')/\Q x vs h':=by
 obtain⟨n,x,vs,h',hr,q⟩:=a;cases n with
 |zero=>simp[Fo.run,IT.run] at hr
 |succ n=>exact⟨n,x,vs,h',hr,q⟩
def aA3{o:UA}{args:List Aa}{k:Aa->IT}{v:Aa}(hv:Ax o args=some v)(hw:W C (k v) Q h):W C (.op o args k) Q h:=by obtain⟨n,x,vs,h',hr,q⟩:=hw.succ;exact CD ⟨n,x,vs,h',by simp only[IT.step,hv];exact hr,q⟩
def yY{n:Nat}{v:Aa}{k:List Aa->IT}(hv:v.cells.length=n)(hw:W C (k v.cells) Q h):W C (.cells n v k) Q h:=by obtain⟨m,x,vs,h',hr,q⟩:=hw.succ;exact CD ⟨m,x,vs,h',by simp only[IT.step,hv,BE];exact hr,q⟩
def gw{b:Bool}{t e:IT}(ht:b=true->W C t Q h)(he:b=false->W C e Q h):W C (.AM (.bool b) t e) Q h:=by
 cases b with
 |true=>obtain⟨m,x,vs,h',hr,q⟩:=(ht rfl).succ;exact CD ⟨m,x,vs,h',by simp only[IT.step];exact hr,q⟩
 |false=>obtain⟨m,x,vs,h',hr,q⟩:=(he rfl).succ;exact CD ⟨m,x,vs,h',by simp only[IT.step];exact hr,q⟩
def mv{n:Option Nat}{p v:Aa}{k:Aa->IT}(hv:Bk h n p=some v)(hw:W C (k v) Q h):W C (.load n p k) Q h:=by obtain⟨m,x,vs,h',hr,q⟩:=hw.succ;exact CD ⟨m,x,vs,h',by simp only[IT.step,hv];exact hr,q⟩
def yZ{n:Nat}{p v:Aa}{k:IT}{h1:Ah}(hv:CK h n p v=some h1)(hw:W C k Q h1):W C (.store n p v k) Q h:=by obtain⟨m,x,vs,h',hr,q⟩:=hw.succ;exact CD ⟨m,x,vs,h',by simp only[IT.step,hv];exact hr,q⟩
def zA{n:Nat}{v:Aa}{k:Aa->IT}(hv:v.cells.length=n)(hw:W C (k (.ptr (some (h.length,0)))) Q (h++[.cells v.cells])):W C (.alloc n v k) Q h:=by obtain⟨m,x,vs,h',hr,q⟩:=hw.succ;exact CD ⟨m,x,vs,h',by simp only[IT.step,Wu,hv,BE];exact hr,q⟩
def mw{a b:Aa}{k:IT}(hv:Aa.beq a b=true)(hw:W C k Q h):W C (.same a b k) Q h:=by obtain⟨m,x,vs,h',hr,q⟩:=hw.succ;exact CD ⟨m,x,vs,h',by simp only[IT.step,hv,BE];exact hr,q⟩
def my{k:Aa->IT}(hw:W C (k (.map (some h.length))) Q (h++[.map []])):W C (.N4 k) Q h:=by obtain⟨m,x,vs,h',hr,q⟩:=hw.succ;exact CD ⟨m,x,vs,h',by simp only[IT.step];exact hr,q⟩
def mz{m key v:Aa}{k:IT}{h1:Ah}(hv:Re h m key v=some h1)(hw:W C k Q h1):W C (.Js m key v k) Q h:=by obtain⟨n,x,vs,h',hr,q⟩:=hw.succ;exact CD ⟨n,x,vs,h',by simp only[IT.step,hv];exact hr,q⟩
def m_{z:Aa}{ok:Bool}{m key v:Aa}{k:Aa->IT}(hv:Rf h z ok m key=some v)(hw:W C (k v) Q h):W C (.Ly z ok m key k) Q h:=by obtain⟨n,x,vs,h',hr,q⟩:=hw.succ;exact CD ⟨n,x,vs,h',by simp only[IT.step,hv];exact hr,q⟩
def bD{size bytes:Nat}{zero:List Aa}{len cap v:Aa}{k:Aa->IT}{h1:Ah}(hv:Od h size bytes zero len cap=some (h1,v))(hw:W C (k v) Q h1):W C (.make size bytes zero len cap k) Q h:=by obtain⟨n,x,vs,h',hr,q⟩:=hw.succ;exact CD ⟨n,x,vs,h',by simp only[IT.step,hv];exact hr,q⟩
def zB{size bytes:Nat}{s x v:Aa}{k:Aa->IT}{h1:Ah}(hv:Ld h size bytes s x=some (h1,v))(hw:W C (k v) Q h1):W C (.IV size bytes s x k) Q h:=by obtain⟨n,x,vs,h',hr,q⟩:=hw.succ;exact CD ⟨n,x,vs,h',by simp only[IT.step,hv];exact hr,q⟩
def bE{s v:Aa}{k:Aa->IT}{h1:Ah}(hv:Ie h s=some (h1,v))(hw:W C (k v) Q h1):W C (.ES s k) Q h:=by obtain⟨n,x,vs,h',hr,q⟩:=hw.succ;exact CD ⟨n,x,vs,h',by simp only[IT.step,hv];exact hr,q⟩
def Z_{u v:Aa}{k:Aa->IT}{h1:Ah}(hv:Lf h u=some (h1,v))(hw:W C (k v) Q h1):W C (.SC u k) Q h:=by obtain⟨n,x,vs,h',hr,q⟩:=hw.succ;exact CD ⟨n,x,vs,h',by simp only[IT.step,hv];exact hr,q⟩
def zC{off:Nat}{p:Aa}{k:IT}{h1:Ah}(hv:Kk h off p=some h1)(hw:W C k Q h1):W C (.HJ off p k) Q h:=by obtain⟨n,x,vs,h',hr,q⟩:=hw.succ;exact CD ⟨n,x,vs,h',by simp only[IT.step,hv];exact hr,q⟩
def nc{size bytes:Nat}{s x v:Aa}{k:Aa->IT}{h1:Ah}(hv:ET h size bytes s x=some (h1,v))(hw:W C (k v) Q h1):W C (.FC size bytes s x k) Q h:=by obtain⟨n,x,vs,h',hr,q⟩:=hw.succ;exact CD ⟨n,x,vs,h',by simp only[IT.step,hv];exact hr,q⟩
def mG{size bytes:Nat}{s x v:Aa}{k:Aa->IT}(hv:Oe h size bytes s x=some v)(hw:W C (k v) Q h):W C (.FD size bytes s x k) Q h:=by obtain⟨n,x,vs,h',hr,q⟩:=hw.succ;exact CD ⟨n,x,vs,h',by simp only[IT.step,hv];exact hr,q⟩
def À{o:qQ}{args:List Aa}{v:Aa}{k:Aa->IT}{h1:Ah}(hv:D2 o h args=some (h1,v))(hw:W C (k v) Q h1):W C (.mem o args k) Q h:=by obtain⟨n,x,vs,h',hr,q⟩:=hw.succ;exact CD ⟨n,x,vs,h',by simp only[IT.step,hv];exact hr,q⟩
def Ev(C:Fo)(f:FuncId)(args:List Aa)(h:Ah)(R:Aa->Ah->Prop):Prop:=
 W C (BY C f args) (λx vs h'=>x= .ret/\∃r,vs=[r]/\R r h') h
def Ev.mono{f:FuncId}{args:List Aa}{R R':Aa->Ah->Prop}(hw:Ev C f args h R)(hr:∀r h',R r h'->R' r h'):Ev C f args h R':=
 W.mono hw λ_ _ _ ⟨hx,r,hv,hR⟩=>⟨hx,r,hv,hr _ _ hR⟩
def q7{f:FuncId}{args:List Aa}{k:Aa->IT}(hc:Ev C f args h λr h1=>W C (k r) Q h1):W C (.call f args k) Q h:=by obtain⟨n,x,vs,h1,hr,hx,r,hv,m,x',GJ,h',F6,q⟩:=hc;subst hx;subst hv;refine CD ⟨max n m,x',GJ,h',?_,q⟩;have yH:=IT.HA (HQ n m) hr;have h2:=IT.HA (Bj (Hi n m) (EL _)) F6;simp only[IT.step];simp only[Fo.run] at*;rw[yH];exact h2
def zD{f:FuncId}{args:List Aa}{k:Aa->IT}(ha:args.all Aa.KK=true)(hc:Ev C f args [] λr _=>r.KK=true/\W C (k r) Q h):W C (.Cx f args k) Q h:=by obtain⟨n,x,vs,h1,hr,hx,r,hv,HI,m,x',GJ,h',F6,q⟩:=hc;subst hx;subst hv;refine CD ⟨max n m,x',GJ,h',?_,q⟩;have yH:=IT.HA (HQ n m) hr;have h2:=IT.HA (Bj (Hi n m) (EL _)) F6;simp only[IT.step,ha,BE];simp only[Fo.run] at*;rw[yH];simp only[HI,BE];exact h2
def ng{key:Nat}{t:IT}{k:Fc->List Aa->IT}(hw:W C t (λx vs h1=>W C (k x vs) Q h1) h):W C (.DW key t k) Q h:=by obtain⟨n,x,vs,h1,hr,ze⟩:=hw.succ;obtain⟨m,x',GJ,h',F6,q⟩:=ze.succ;refine CD ⟨max n m,x',GJ,h',?_,q⟩;have b:=IT.I4 (λt h r=>IT.HA (fn:=BY C) (HQ n m)) _ _ _ hr;have a:=IT.I4 (λt h r=>IT.HA (fn:=BY C) (Hi n m)) _ _ _ F6;simp only[IT.step];simp only[Fo.run] at*;rw[b];exact a
end
end Go.Am
end
