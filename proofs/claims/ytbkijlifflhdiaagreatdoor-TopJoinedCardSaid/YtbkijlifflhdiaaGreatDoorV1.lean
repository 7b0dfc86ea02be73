/- Lemmas -/
import GoSem.Step
set_option linter.all false
def Ac:=@if_neg
def Ad:=@if_pos
def Ae:=@List.getElem?_eq_some_iff
def Af:=@Nat.le_refl
def Ai:=@List.getElem?_append_left
def Aj:=@List.getElem?_set_ne
def Al:=@List.mem_append
def Ao:=@List.length_append
def Ap:=@List.getElem?_eq_getElem
def As:=@Array.getElem?_eq_some_iff
def Av:=@List.length_take
def Aw:=@List.length_map
def Az:=@List.mem_cons
def AA:=@List.getElem?_set_self
def AD:=@List.Sublist.refl
def AE:=@List.drop_eq_getElem_cons
def AF:=@false_implies
def AG:=@List.getD_eq_getElem?_getD
def AH:=@List.length_cons
def AI:=@List.append_assoc
def AJ:=@true_implies
def AL:=@List.take_succ_eq_append_getElem
def AN:=@List.mem_of_mem_take
def AR:=@List.mem_map
def AT:=@List.take_of_length_le
def AU:=@not_true_eq_false
def AV:=@not_false_eq_true
def AW:=@List.length_drop
def AX:=@List.getElem_mem
def AZ:=@List.map_cons
def A5:=@Nat.le_trans
def A7:=@List.mem_of_mem_drop
def A8:=@Nat.zero_le
def A9:=@Nat.add_zero
def Bc:=@List.drop_of_length_le
def Bd:=@List.length_nil
def Bg:=@Nat.add_mul
def Bi:=@Bool.and_eq_true
def Bj:=@List.nil_append
def Bk:=@decide_eq_false
def Bl:=@List.size_toArray
def Bm:=@Nat.zero_add
def Br:=@List.mem_append_right
def Bs:=@decide_eq_true
def Bv:=@Option.some.injEq
def Bw:=@Int.toNat_natCast
def Bx:=@List.nodup_append
def By:=@List.nodup_cons
def Bz:=@List.length_set
def BB:=@if_true
def BG:=@List.getElem?_append_right
def BH:=@Nat.lt_or_ge
def BM:=@Option.map_some
def BN:=@List.append_nil
def BQ:=@Array.length_toList
def BR:=@List.mem_filterMap
def BT:=@List.length_singleton
def BU:=@Option.bind_some
def BV:=@List.getElem?_take
def BW:=@List.cons_append
def BY:=@List.take_append_drop
def BZ:=@List.take_length
def B0:=@eq_self
def B1:=@congrArg
def B3:=@List.map_append
def B6:=@List.mem_of_getElem?
def B7:=@List.mem_append_left
def B8:=@List.set_eq_take_append_cons_drop
def Ca:=@List.getElem?_take_of_lt
def Cc:=@List.getElem?_drop
def Cf:=@List.getElem?_of_mem
def Cg:=@Nat.min_eq_left
def Cj:=@Array.getElem?_eq_getElem
def Cn:=@Nat.succ_pos
def Cq:=@List.eq_nil_of_length_eq_zero
def Cs:=@List.flatten_cons
def CF:=@ne_eq
def CH:=@List.mem_filter
def CL:=@Nat.lt_irrefl
def CO:=@List.set_append_right
def CT:=@List.getElem?_map
def CY:=@List.take_append_of_le_length
def CZ:=@List.mem_or_eq_of_mem_set
def C0:=@Bool.false_eq_true
def C1:=@eq_true
def Da:=@Option.some.inj
def Dd:=@List.getElem?_eq_none
def De:=@List.map_nil
def Df:=@decide_eq_true_eq
def Dm:=@Nat.lt_of_lt_of_le
def Dn:=@Nat.mul_le_mul_right
def Dp:=@Array.replicate_succ
def Dq:=@Array.replicate_zero
def Dv:=@Ne.symm
def DF:=@List.append_toArray
def DI:=@Nat.one_mul
def DJ:=@List.filterMap_append
def DU:=@List.drop_drop
def DW:=@Nat.zero_lt_one
def D2:=@List.mem_singleton
def D3:=@List.filter_append
def D7:=@Nat.le_succ
def D8:=@List.all_eq_true
def D9:=@List.mem_cons_of_mem
def Ea:=@Nat.le_add_right
def Eb:=@decide_eq_decide
def Ep:=@List.take_left
def Er:=@List.push_toArray
def Es:=@List.take_sublist
def Ey:=@List.cons.injEq
def EH:=@if_false
def Fe:=@Array.ext'
def Fv:=@List.length_pos_iff
def Fw:=@Array.toList_append
def FB:=@Array.getD_eq_getD_getElem?
def FC:=@decide_false
def FD:=@Nat.sub_self
def FJ:=@List.filter_cons
def FZ:=@List.take_take
def F0:=@List.length_replicate
def F5:=@List.singleton_append
def Ge:=@List.extract_eq_take_drop
def Gn:=@bne_self_eq_false
def Gp:=@decide_true
def GG:=@List.reverse_append
def GH:=@List.filterMap_cons
def GW:=@Nat.le_max_right
def GX:=@Array.eq_empty_of_size_eq_zero
def GY:=@Nat.le_mul_of_pos_right
def GZ:=@List.nodup_nil
def Ha:=@List.drop_length
def Hb:=@List.getElem_map
def Hv:=@List.reverse_singleton
def Hw:=@List.map_set
def HH:=@Nat.le_max_left
def HI:=@List.take_left'
def HO:=@List.map_take
def HV:=@List.set_getElem_self
def Ia:=@Array.size_append
def Ib:=@List.reverse_cons
def Iy:=@Nat.mul_one
def Iz:=@List.reverse_reverse
def ID:=@Nat.lt_succ_self
def I1:=@List.toList_toArray
def I2:=@Int.toNat_of_nonneg
def I3:=@List.findIdx?_eq_some_iff_findIdx_eq
def Jp:=@Prod.mk.injEq
def Jq:=@List.getElem_append_left
def Js:=@List.drop_left'
def JH:=@Nat.eq_zero_or_pos
def JJ:=@List.find?_eq_none
def JP:=@List.getElem?_cons_zero
def JQ:=@Option.bind_eq_some_iff
def Ky:=@List.drop_zero
def Kz:=@Nat.le_of_eq
def KA:=@Nat.zero_mul
def KB:=@and_true
def KL:=@List.takeWhile_append_dropWhile
def K6:=@Array.getElem?_modify
def Ln:=@Option.getD_some
def Lo:=@Array.toList_map
def Lp:=@List.mem_flatMap
def Lq:=@List.map_drop
def LR:=@Array.toList_extract
def LS:=@Int.le_refl
def LU:=@List.mem_of_getLast?
def Mq:=@List.find?_cons
def MB:=@List.flatten_append
def MG:=@Nat.add_comm
def MH:=@Nat.ne_of_lt
def Nr:=@Array.ext_getElem?
def Ns:=@Bool.not_false
def Nt:=@Int.fdiv_eq_ediv_of_nonneg
def NU:=@Option.filter_eq_some_iff
def NV:=@List.mem_of_find?_eq_some
def NW:=@List.getLast?_eq_getElem?
def Oc:=@List.ext_getElem?
def Od:=@List.find?_append
def ON:=@Nat.add_assoc
def OO:=@not_or
def OP:=@Bool.false_or
def OQ:=@Bool.bne_true
def PS:=@List.drop_append
def PT:=@List.getElem?_cons_succ
def PU:=@List.reverse_nil
def PV:=@true_and
def PX:=@Nat.add_sub_cancel_left
def PY:=@Int.eq_ofNat_of_zero_le
def PZ:=@List.map_reverse
def QK:=@List.sublist_cons_self
def QL:=@Option.map_eq_some_iff
def QM:=@Nat.le_of_lt
def QN:=@Int.not_lt
def Ru:=@Bool.or_eq_true
def Rv:=@List.find?_some
def RV:=@Array.getElem?_toList
def Uq:=@List.take_zero
def U7:=@List.take_succ_cons
def U8:=@List.take_set_of_le
def U9:=@List.replicate_succ
def Va:=@Array.getElem?_push
def Vb:=@List.map_congr_left
def Vc:=@Nat.sub_lt_sub_left
def Vd:=@List.length_reverse
def Ve:=@List.filter_eq_self
def Vf:=@List.mem_map_of_mem
def Wj:=@List.all_cons
def XU:=@Nat.add_sub_cancel
def ZY:=@List.flatMap_cons
def ZZ:=@and_self
def Z0:=@dif_pos
def aC:=@Array.getElem?_setIfInBounds_ne
def fJ:=@List.zipIdx_cons
def fK:=@List.take_append
def fL:=@Nat.le_of_not_lt
def fM:=@List.any_eq_true
def oI:=@List.foldl_cons
def oJ:=@Nat.le_antisymm
def oK:=@Bool.eq_iff_iff
def vY:=@List.mem_range
def vZ:=@beq_iff_eq
def dk:=@List.take_add
def dm:=@List.eq_of_mem_replicate
def dn:=@Int.lt_irrefl
def jh:=@List.filter_cons_of_pos
def jj:=@List.length_eq_zero_iff
def uj:=@List.length_eq_one_iff
def uk:=@Bool.true_or
def um:=@List.takeWhile_sublist
def uo:=@eq_comm
def uq:=@List.set_set
def wo:=@List.contains_iff_mem
def wq:=@List.length_filter_le
def Ń:=@List.getElem?_append
def ń:=@List.range_eq_range'
def Ņ:=@List.pairwise_append
def Ŷ:=@Nat.add_sub_cancel'
def ŷ:=@List.drop_set_of_lt
def Ÿ:=@Array.toList_zipIdx
def Ź:=@List.flatMap_append
def aDm:=@List.zip_cons_cons
def aDn:=@Array.foldl_toList
def aDo:=@List.pairwise_cons
def aDp:=@Option.isSome_some
def aDq:=@List.findIdx?_cons
def aDr:=@Option.toList_some
def aDs:=@List.map_singleton
def aEW:=@Bool.not_eq_true'
def aEX:=@List.getElem?_set
def aEY:=@List.pairwise_map
def aE1:=@List.drop_sublist
def aE2:=@List.getLast?_nil
def aE3:=@Nat.lt_trichotomy
def aE4:=@List.getElem_take
def aE5:=@of_decide_eq_true
abbrev aJo:List UInt8:=[97,116,116,114,105,98,117,116,101,78,97,109,101,32,97,116,116,114,105,98,117,116,101,84,121,112,101,32,98,97,115,101,70,114,101,113,117,101,110,99,121,32,98,97,115,101,80,114,111,102,105,108,101,32,99,97,108,99,77,111,100,101,32,99,108,105,112,80,97,116,104,85,110,105,116,115,32,100,105,102,102,117,115,101,67,111,110,115,116,97,110,116,32,101,100,103,101,77,111,100,101,32,102,105,108,116,101,114,85,110,105,116,115,32,103,108,121,112,104,82,101,102,32,103,114,97,100,105,101,110,116,84,114,97,110,115,102,111,114,109,32,103,114,97,100,105,101,110,116,85,110,105,116,115,32,107,101,114,110,101,108,77,97,116,114,105,120,32,107,101,114,110,101,108,85,110,105,116,76,101,110,103,116,104,32,107,101,121,80,111,105,110,116,115,32,107,101,121,83,112,108,105,110,101,115,32,107,101,121,84,105,109,101,115,32,108,101,110,103,116,104,65,100,106,117,115,116,32,108,105,109,105,116,105,110,103,67,111,110,101,65,110,103,108,101,32,109,97,114,107,101,114,72,101,105,103,104,116,32,109,97,114,107,101,114,85,110,105,116,115,32,109,97,114,107,101,114,87,105,100,116,104,32,109,97,115,107,67,111,110,116,101,110,116,85,110,105,116,115,32,109,97,115,107,85,110,105,116,115,32,110,117,109,79,99,116,97,118,101,115,32,112,97,116,104,76,101,110,103,116,104,32,112,97,116,116,101,114,110,67,111,110,116,101,110,116,85,110,105,116,115,32,112,97,116,116,101,114,110,84,114,97,110,115,102,111,114,109,32,112,97,116,116,101,114,110,85,110,105,116,115,32,112,111,105,110,116,115,65,116,88,32,112,111,105,110,116,115,65,116,89,32,112,111,105,110,116,115,65,116,90,32,112,114,101,115,101,114,118,101,65,108,112,104,97,32,112,114,101,115,101,114,118,101,65,115,112,101,99,116,82,97,116,105,111,32,112,114,105,109,105,116,105,118,101,85,110,105,116,115,32,114,101,102,88,32,114,101,102,89,32,114,101,112,101,97,116,67,111,117,110,116,32,114,101,112,101,97,116,68,117,114,32,114,101,113,117,105,114,101,100,69,120,116,101,110,115,105,111,110,115,32,114,101,113,117,105,114,101,100,70,101,97,116,117,114,101,115,32,115,112,101,99,117,108,97,114,67,111,110,115,116,97,110,116,32,115,112,101,99,117,108,97,114,69,120,112,111,110,101,110,116,32,115,112,114,101,97,100,77,101,116,104,111,100,32,115,116,97,114,116,79,102,102,115,101,116,32,115,116,100,68,101,118,105,97,116,105,111,110,32,115,116,105,116,99,104,84,105,108,101,115,32,115,117,114,102,97,99,101,83,99,97,108,101,32,115,121,115,116,101,109,76,97,110,103,117,97,103,101,32,116,97,98,108,101,86,97,108,117,101,115,32,116,97,114,103,101,116,88,32,116,97,114,103,101,116,89,32,116,101,120,116,76,101,110,103,116,104,32,118,105,101,119,66,111,120,32,118,105,101,119,84,97,114,103,101,116,32,120,67,104,97,110,110,101,108,83,101,108,101,99,116,111,114,32,121,67,104,97,110,110,101,108,83,101,108,101,99,116,111,114,32,122,111,111,109,65,110,100,80,97,110]
abbrev aJp:List UInt8:=[97,108,116,71,108,121,112,104,32,97,108,116,71,108,121,112,104,68,101,102,32,97,108,116,71,108,121,112,104,73,116,101,109,32,97,110,105,109,97,116,101,67,111,108,111,114,32,97,110,105,109,97,116,101,77,111,116,105,111,110,32,97,110,105,109,97,116,101,84,114,97,110,115,102,111,114,109,32,99,108,105,112,80,97,116,104,32,102,101,66,108,101,110,100,32,102,101,67,111,108,111,114,77,97,116,114,105,120,32,102,101,67,111,109,112,111,110,101,110,116,84,114,97,110,115,102,101,114,32,102,101,67,111,109,112,111,115,105,116,101,32,102,101,67,111,110,118,111,108,118,101,77,97,116,114,105,120,32,102,101,68,105,102,102,117,115,101,76,105,103,104,116,105,110,103,32,102,101,68,105,115,112,108,97,99,101,109,101,110,116,77,97,112,32,102,101,68,105,115,116,97,110,116,76,105,103,104,116,32,102,101,68,114,111,112,83,104,97,100,111,119,32,102,101,70,108,111,111,100,32,102,101,70,117,110,99,65,32,102,101,70,117,110,99,66,32,102,101,70,117,110,99,71,32,102,101,70,117,110,99,82,32,102,101,71,97,117,115,115,105,97,110,66,108,117,114,32,102,101,73,109,97,103,101,32,102,101,77,101,114,103,101,32,102,101,77,101,114,103,101,78,111,100,101,32,102,101,77,111,114,112,104,111,108,111,103,121,32,102,101,79,102,102,115,101,116,32,102,101,80,111,105,110,116,76,105,103,104,116,32,102,101,83,112,101,99,117,108,97,114,76,105,103,104,116,105,110,103,32,102,101,83,112,111,116,76,105,103,104,116,32,102,101,84,105,108,101,32,102,101,84,117,114,98,117,108,101,110,99,101,32,102,111,114,101,105,103,110,79,98,106,101,99,116,32,103,108,121,112,104,82,101,102,32,108,105,110,101,97,114,71,114,97,100,105,101,110,116,32,114,97,100,105,97,108,71,114,97,100,105,101,110,116,32,116,101,120,116,80,97,116,104]
abbrev aJq:List UInt8:=[116,101,109,112,108,97,116,101]
abbrev aJr:List UInt8:=[97,110,110,111,116,97,116,105,111,110,45,120,109,108]
abbrev aJs:List UInt8:=[116,97,98,108,101]
abbrev aJt:List UInt8:=[102,111,114,101,105,103,110,79,98,106,101,99,116]
abbrev aJu:List UInt8:=[99,97,112,116,105,111,110]
abbrev aJv:List UInt8:=[104,116,109,108]
abbrev aJw:List UInt8:=[98,117,116,116,111,110]
abbrev aJx:List UInt8:=[111,112,116,103,114,111,117,112]
abbrev aJy:List UInt8:=[97,112,112,108,105,99,97,116,105,111,110,47,120,104,116,109,108,43,120,109,108]
abbrev aJz:List UInt8:=[120,108,105,110,107,58,97,114,99,114,111,108,101]
abbrev aJA:List UInt8:=[120,108,105,110,107,58,97,99,116,117,97,116,101]
abbrev aJB:List UInt8:=[120,108,105,110,107,58,116,105,116,108,101]
abbrev aJC:List UInt8:=[120,109,108,110,115,58,120,108,105,110,107]
abbrev aJD:List UInt8:=[99,111,108,103,114,111,117,112]
abbrev aJE:List UInt8:=[116,102,111,111,116]
abbrev aJF:List UInt8:=[116,105,116,108,101]
abbrev aJG:List UInt8:=[120,109,108,110,115]
abbrev aJH:List UInt8:=[111,112,116,105,111,110]
abbrev aJI:List UInt8:=[116,98,111,100,121]
abbrev aJJ:List UInt8:=[116,104,101,97,100]
abbrev aJK:List UInt8:=[120,108,105,110,107,58,104,114,101,102]
abbrev aJL:List UInt8:=[120,108,105,110,107,58,114,111,108,101]
abbrev aJM:List UInt8:=[120,108,105,110,107,58,115,104,111,119]
abbrev aJN:List UInt8:=[120,108,105,110,107,58,116,121,112,101]
abbrev aJO:List UInt8:=[100,101,102,105,110,105,116,105,111,110,117,114,108]
abbrev aJP:List UInt8:=[120,109,108,58,115,112,97,99,101]
abbrev aJQ:List UInt8:=[100,101,102,105,110,105,116,105,111,110,85,82,76]
abbrev aJR:List UInt8:=[120,109,108,58,108,97,110,103]
abbrev aJS:List UInt8:=[109,97,114,113,117,101,101]
abbrev aJT:List UInt8:=[97,114,99,114,111,108,101]
abbrev aJU:List UInt8:=[97,99,116,117,97,116,101]
abbrev aJV:List UInt8:=[97,112,112,108,101,116]
abbrev aJW:List UInt8:=[116,101,120,116,47,104,116,109,108]
abbrev aJX:List UInt8:=[115,101,108,101,99,116]
abbrev aJY:List UInt8:=[111,98,106,101,99,116]
abbrev aJZ:List UInt8:=[100,101,115,99]
abbrev aJ0:List UInt8:=[101,110,99,111,100,105,110,103]
abbrev aJ1:List UInt8:=[102,114,97,109,101,115,101,116]
abbrev aJ2:List UInt8:=[120,108,105,110,107]
abbrev aJ3:List UInt8:=[115,112,97,99,101]
abbrev aJ4:List UInt8:=[104,114,101,102]
abbrev aJ5:List UInt8:=[114,111,108,101]
abbrev aJ6:List UInt8:=[115,104,111,119]
abbrev aJ7:List UInt8:=[116,121,112,101]
theorem Ab{p:Prop}(h:p:=by omega):p:=h
theorem Au{p:Prop}(h:p:=by simp):p:=h
theorem Be{p:Prop}(h:p:=by decide):p:=h
theorem eJ{p:Prop}(h:p:=by decide +kernel):p:=h
theorem GU{p:Prop}(h:p:=by simp only; omega):p:=h
theorem D5{p:Prop}(h:p:=by simp; omega):p:=h
theorem Hd{p:Prop}(h:p:=by simp[Go.Op.operands]):p:=h
theorem Ok{p:Prop}(h:p:=by simp[Go.Value.cells,Go.Value.oneCell']):p:=h
section
section
namespace Go.Am
abbrev Aq:=List UInt8
inductive Aa where
 |bool (b:Bool)
 |int (k:IntKind) (n:Int)
 |str (s:Aq)
 |ptr (p:Option (Nat×Nat))
 |Cb (cells:List Aa)
 |sl (size:Nat) (An:List (List Aa))
 |slnil
 |EV (size:Nat)
 |CG (id off len size:Nat)
 |map (m:Option Nat)
 |func (fn:Fn) (first captured:List Aa)
 |nilFunc
 |iface (t:TypeId) (v:Aa)
 |nilIface
 |agg (cells:List Aa)
 |tuple (vs:List Aa)
 deriving Inhabited
mutual
def Aa.beq:Aa->Aa->Bool
 | .bool a,.bool b=>a==b
 | .int k a,.int l b=>k==l&&a==b
 | .str a,.str b=>a==b
 | .ptr a,.ptr b=>a==b
 | .Cb a,.Cb b=>Aa.OS a b
 | .sl n a,.sl m b=>n==m&&Aa.OT a b
 | .slnil,.slnil=>true
 | .EV a,.EV b=>a==b
 | .CG a b c d,.CG a' b' c' d'=>a==a'&&b==b'&&c==c'&&d==d'
 | .map a,.map b=>a==b
 | .func f a b,.func f' a' b'=>f==f'&&Aa.OS a a'&&Aa.OS b b'
 | .nilFunc,.nilFunc=>true
 | .iface t a,.iface t' a'=>t==t'&&Aa.beq a a'
 | .nilIface,.nilIface=>true
 | .agg a,.agg b=>Aa.OS a b
 | .tuple a,.tuple b=>Aa.OS a b
 |_,_=>false
def Aa.OS:List Aa->List Aa->Bool
 |[],[]=>true
 |a::x,b::y=>Aa.beq a b&&Aa.OS x y
 |_,_=>false
def Aa.OT:List (List Aa)->List (List Aa)->Bool
 |[],[]=>true
 |a::x,b::y=>Aa.OS a b&&Aa.OT x y
 |_,_=>false
end
def Aa.cells:Aa->List Aa
 | .agg cs=>cs
 | .tuple _=>[]
 |v=>[v]
inductive FF where
 |cells (cs:List Aa)
 |map (es:List (Aa×Aa))
 |Ec
 deriving Inhabited
abbrev Ag:=List FF
inductive pB where
 |copy (size:Nat)
 |clear (size:Nat) (zero:List Aa)
 |kL (size:Nat) (lo hi:Bool)
 |aD (size:Nat)
 |wu (t:TypeId)
 |wI (zero:Aa) (ok:Bool)
 |LW (zero:Aa)
 |pC (zero:Aa)
 |K8
 |jk
 |kM
 |P3 (g:Ag->List Aa->Option (Ag×Aa))
def pB.wv:pB->Bool
 | .aD _| .clear _ _| .K8| .jk=>true
 |_=>false
inductive Dw where
 |undef
 |skip
 |val (v:Aa)
 |MC (b:Bool)
 |Bn (v:Aa)
 |box (ver:Nat) (cells:List Aa) (Bn:List Nat)
 |Ed (s off:Nat)
 deriving Inhabited
abbrev Bq:=List Dw
def Bq.at(U:Bq)(s:Nat):Dw:=U.getD s .undef
def Dw.FM:Dw->Option Aa
 | .val v| .Bn v=>some v
 | .MC b=>some (.bool b)
 |_=>none
inductive FK where
 |b|i|s
 deriving DecidableEq,Inhabited
inductive NK where
 |sl|fn|mp
 deriving DecidableEq,Inhabited
inductive Ur where
 |int (op:BinOp)
 |str (op:BinOp)
 |beq (neg:Bool)
 |geq (neg:Bool) (ks:List FK)
 |RW (neg:Bool)
 |FN (neg:Bool) (k:NK)
 |un (op:UnOp)
 |conv(k:IntKind)
 |pick
 |part (off:Nat) (n:Option Nat)
 |jl (len size:Nat) (n:Option Nat)
 |X7
 |FE (off:Nat)
 |F8 (size:Nat)
 |Sm (len size:Nat)
 |len (isStr:Bool)
 |append (size bytes:Nat)
 |P4 (size:Nat) (isStr lo hi:Bool)
 |ext (i:Nat)
 |J9
 |Cd (size:Nat)
 |EV (size:Nat)
 |B4 (zero:List Aa) (places:List (Nat×Nat))
 |Jt (isMax:Bool)
 |Uu
 |ur
 |ź
 deriving Inhabited
def MJ:Value->Option Aa
 | .bool b=>some (.bool b)
 | .int k n=>some (.int k n)
 | .string s=>some (.str s.data.toList)
 | .pointer none=>some (.ptr none)
 | .slice none 0 0=>some .slnil
 | .map none=>some (.map none)
 | .func fn f c=>if f.size=0/\c.size=0 then some (.func fn [] []) else none
 | .nilFunc=>some .nilFunc
 | .nilIface=>some .nilIface
 |_=>none
def J3:List Value->Option (List Aa)
 |[]=>some []
 |v::vs=>match MJ v,J3 vs with
  |some a,some as=>some (a::as)
  |_,_=>none
def I4:Value->Option Aa
 | .agg cs=>(J3 cs.toList).map .agg
 |v=>MJ v
def Nu:Sem Value->Option Value
 | .pure v=>some v
 |_=>none
def AO:Nat:=140737488355328
def fN(op:BinOp)(k:IntKind)(a:Int)(l:IntKind)(b:Int):Option Aa:=
 (Nu (binOp op 0 (.int k a) (.int l b))).bind λv=>match v with
  | .int k n=>some (.int k n)
  | .bool b=>some (.bool b)
  |_=>none
def X8(op:BinOp)(a b:Aq):Option Aa:=
 match op with
 | .add=>if a.length+b.length<=9223372036854775807 then some (.str (a++b)) else none
 | .eql=>some (.bool (a==b))
 | .neq=>some (.bool (!(a==b)))
 | .lss=>some (.bool (Op.bytesLess a b))
 | .leq=>some (.bool (Op.bytesLess a b||a==b))
 | .gtr=>some (.bool (!(Op.bytesLess a b||a==b)))
 | .geq=>some (.bool (!(Op.bytesLess a b)))
 |_=>none
def Ka:FK->Aa->Aa->Option Bool
 | .b,.bool a,.bool b=>some (a==b)
 | .i,.int k a,.int l b=>if k=l then some (a==b) else none
 | .s,.str a,.str b=>some (a==b)
 |_,_,_=>none
def Dh:List FK->List Aa->List Aa->Option Bool
 |[],[],[]=>some true
 |k::ks,a::x,b::y=>match Ka k a b,Dh ks x y with
  |some e,some es=>some (e&&es)
  |_,_=>none
 |_,_,_=>none
def fO:Aa->Aa->Option Bool
 | .ptr none,.ptr b=>some b.isNone
 | .ptr (some _),.ptr none=>some false
 | .ptr (some a),.ptr (some b)=>if a=b then some true else none
 | .ptr none,.Cb _=>some false
 | .Cb _,.ptr none=>some false
 |_,_=>none
def fP:NK->Aa->Aa->Option Bool
 | .sl,.slnil,.slnil=>some true
 | .sl,.slnil,.sl _ _=>some false
 | .sl,.sl _ _,.slnil=>some false
 | .sl,.slnil,.EV _=>some false
 | .sl,.EV _,.slnil=>some false
 | .sl,.slnil,.CG _ _ _ _=>some false
 | .sl,.CG _ _ _ _,.slnil=>some false
 | .fn,.nilFunc,.nilFunc=>some true
 | .fn,.nilFunc,.func _ _ _=>some false
 | .fn,.func _ _ _,.nilFunc=>some false
 | .mp,.map none,.map b=>some b.isNone
 | .mp,.map (some _),.map none=>some false
 |_,_,_=>none
def Ek(cs:List Aa)(off:Nat):Option Nat->Option Aa
 |none=>cs[off]?
 |some n=>if off+n<=cs.length then some (.agg ((cs.drop off).take n)) else none
def Lr(n:Int)(len:Nat):Option Nat:=if 0<=n/\n<len then some n.toNat else none
def E8(n:Int)(top:Nat):Option Nat:=if 0<=n/\n<=top then some n.toNat else none
def Dx(lo hi:Bool)(len:Nat)(as:List Aa):Option (Nat×Nat):=
 match lo,hi with
 |false,false=>match as with
  |[]=>some (0,len)
  |_=>none
 |false,true=>match as with
  |[.int _ h]=>(E8 h len).map λh=>(0,h)
  |_=>none
 |true,false=>match as with
  |[.int _ l]=>(E8 l len).map λl=>(l,len)
  |_=>none
 |true,true=>match as with
  |[.int _ l,.int _ h]=>(E8 h len).bind λh=>(E8 l h).map λl=>(l,h)
  |_=>none
def KM:List (List Aa)->Option Aq
 |[]=>some []
 |[.int .u8 n]::rs=>(KM rs).map λl=>n.toNat.toUInt8::l
 |_=>none
def Cu(s:Aq):List (List Aa):=s.map λb=>[.int .u8 b.toNat]
def CP(size bytes:Nat)(s:Aa)(An:List (List Aa)):Option Aa:=
 match An with
 |[]=>match s with
  | .slnil=>some .slnil
  | .EV z=>if z=size then some (.EV z) else none
  | .sl z r=>if z=size then some (.sl z r) else none
  |_=>none
 |An=>match s with
  | .slnil=>if An.length*bytes<=AO then some (.sl size An) else none
  | .EV z=>if z=size/\An.length*bytes<=AO then some (.sl size An) else none
  | .sl z r=>if z=size/\(r.length+An.length)*bytes<=AO then some (.sl size (r++An)) else none
  |_=>none
def Bt(cs:List Aa):List ((Nat×Nat)×Aa)->Option (List Aa)
 |[]=>some cs
 |((off,size),v)::rest=>if 0<size/\v.cells.length=size/\off+size<=cs.length then Bt (cs.take off++v.cells++cs.drop (off+size)) rest else none
def dr(k:IntKind)(n:Int):Option Aa:=
 (Nu (Op.unary .xor (.int k n))).bind λv=>match v with
  | .int k n=>some (.int k n)
  |_=>none
def jm:UnOp->Aa->Option Aa
 | .not,.bool b=>some (.bool (!b))
 | .neg,.int k n=>some (.int k (k.wrap (0 -n)))
 | .xor,.int k n=>dr k n
 |_,_=>none
def Vg(p:Aa)(off:Nat):Option Aa:=
 match p with
 | .Cb cs=>some (.Cb (cs.drop off))
 | .ptr (some (id,o))=>some (.ptr (some (id,o+off)))
 |_=>none
def elemOf(size:Nat)(s:Aa)(i:Int):Option Aa:=
 match s with
 | .sl z An=>if z=size then(if 0<=i then(An[i.toNat]?).map .Cb else none) else none
 | .CG id off len z=>if z=size then(Lr i len).map λi=> .ptr (some (id,off+i*size)) else none
 |_=>none
def lenOf(isStr:Bool)(s:Aa):Option Aa:=
 match s with
 | .sl _ An=>if isStr then none else some (.int .i64 An.length)
 | .CG _ _ n _=>if isStr then none else some (.int .i64 n)
 | .slnil=>if isStr then none else some (.int .i64 0)
 | .EV _=>if isStr then none else some (.int .i64 0)
 | .str s=>if isStr then some (.int .i64 s.length) else none
 |_=>none
def Gf(size bytes:Nat)(s x:Aa):Option Aa:=
 match x with
 | .slnil=>CP size bytes s []
 | .EV z=>if z=size then CP size bytes s [] else none
 | .sl z An=>if z=size then CP size bytes s An else none
 | .str x=>if size=1 then CP size bytes s (Cu x) else none
 |_=>none
def JR(size:Nat)(isStr lo hi:Bool)(s:Aa)(as:List Aa):Option Aa:=
 match s with
 | .str s=>if isStr then(Dx lo hi s.length as).map λ(l,h)=> .str ((s.take h).drop l) else none
 | .sl z An=>if isStr=false/\z=size then(Dx lo hi An.length as).map λ(l,h)=> .sl z ((An.take h).drop l) else none
 | .CG id off n z=>if isStr=false/\z=size then(Dx lo hi n as).bind λ(l,h)=>if l<n then some (.CG id (off+l*z) (h-l) z) else some (.sl z []) else none
 | .slnil=>if isStr then none else(Dx lo hi 0 as).map λ_=> .slnil
 |_=>none
def X9:Aa->Option Aa
 | .ptr (some p)=>some (.ptr (some p))
 | .Cb cs=>some (.Cb cs)
 | .func (.func f) a b=>some (.func (.func f) a b)
 |_=>none
def Wk:Aa->Option Aa
 | .sl 1 An=>(KM An).map .str
 | .slnil=>some (.str [])
 |_=>none
def Ax(p:Ur)(args:List Aa):Option Aa:=
 match p with
 | .int op=>match args with
  |[.int k a,.int l b]=>fN op k a l b
  |_=>none
 | .str op=>match args with
  |[.str a,.str b]=>X8 op a b
  |_=>none
 | .beq neg=>match args with
  |[.bool a,.bool b]=>some (.bool ((a==b) != neg))
  |_=>none
 | .geq neg ks=>match args with
  |[.agg a,.agg b]=>(Dh ks a b).map λe=> .bool (e != neg)
  |_=>none
 | .RW neg=>match args with
  |[a,b]=>(fO a b).map λe=> .bool (e != neg)
  |_=>none
 | .FN neg k=>match args with
  |[a,b]=>(fP k a b).map λe=> .bool (e != neg)
  |_=>none
 | .un op=>match args with
  |[v]=>jm op v
  |_=>none
 | .conv k=>match args with
  |[.int _ n]=>some (.int k (k.wrap n))
  |_=>none
 | .ź=>match args with
  |[.int _ n]=>some (.str (Utf8.encode n).data.toList)
  |_=>none
 | .pick=>match args with
  |[.bool c,a,b]=>some (if c then a else b)
  |_=>none
 | .part off n=>match args with
  |[.agg cs]=>Ek cs off n
  |_=>none
 | .jl len size n=>match args with
  |[.agg cs,.int _ i]=>(Lr i len).bind λi=>Ek cs (i*size) n
  |_=>none
 | .X7=>match args with
  |[.str s,.int _ i]=>if 0<=i then(s[i.toNat]?).map λb=> .int .u8 b.toNat else none
  |_=>none
 | .FE off=>match args with
  |[p]=>Vg p off
  |_=>none
 | .F8 size=>match args with
  |[s,.int _ i]=>elemOf size s i
  |_=>none
 | .Sm len size=>match args with
  |[p,.int _ i]=>(Lr i len).bind λi=>Vg p (i*size)
  |_=>none
 | .len isStr=>match args with
  |[s]=>lenOf isStr s
  |_=>none
 | .append size bytes=>match args with
  |[s,x]=>Gf size bytes s x
  |_=>none
 | .P4 size isStr lo hi=>match args with
  |s::as=>JR size isStr lo hi s as
  |_=>none
 | .ext i=>match args with
  |[.tuple vs]=>vs[i]?
  |_=>none
 | .J9=>match args with
  |[v]=>X9 v
  |_=>none
 | .Cd size=>if args.all (λa=>a.cells.length==size)&&decide (args.length*size<=16777216) then some (.sl size (args.map (·.cells))) else none
 | .EV size=>if args.isEmpty then some (.EV size) else none
 | .B4 zero places=>if places.length=args.length then(Bt zero (places.zip args)).map .agg else none
 | .Jt isMax=>match args with
  |[.int k a,.int l b]=>if k=l then some (.int k (if isMax then(if b>a then b else a) else(if b<a then b else a))) else none
  |_=>none
 | .Uu=>match args with
  |[v]=>Wk v
  |_=>none
 | .ur=>match args with
  |[.str s]=>if s.length<=AO then some (.sl 1 (Cu s)) else none
  |_=>none
inductive EW where
 |normal
 |exit (id:Nat)
 |ret
 deriving DecidableEq,Inhabited
inductive IT where
 |ret (x:EW) (vs:List Aa)
 |fail
 |op (o:Ur) (args:List Aa) (k:Aa->IT)
 |cells (n:Nat) (v:Aa) (k:List Aa->IT)
 |A4 (c:Aa) (t e:IT)
 |load (n:Option Nat) (p:Aa) (k:Aa->IT)
 |store (n:Nat) (p v:Aa) (k:IT)
 |alloc (n:Nat) (v:Aa) (k:Aa->IT)
 |call (f:FuncId) (args:List Aa) (k:Aa->IT)
 |EK (fn:Aa) (args:List Aa) (k:Aa->IT)
 |Ck (f:FuncId) (args:List Aa) (k:Aa->IT)
 |loop (key:Nat) (init:List Aa) (body:List Aa->IT) (k:EW->List Aa->IT)
 |EM (key:Nat) (t:IT) (k:EW->List Aa->IT)
 |same (a b:Aa) (k:IT)
 |NO (k:Aa->IT)
 |Ja (m key v:Aa) (k:IT)
 |Ls (zero:Aa) (ok:Bool) (m key:Aa) (k:Aa->IT)
 |make (size bytes:Nat) (zero:List Aa) (len cap:Aa) (k:Aa->IT)
 |IE (size bytes:Nat) (s x:Aa) (k:Aa->IT)
 |EE (s:Aa) (k:Aa->IT)
 |Sn (v:Aa) (k:Aa->IT)
 |HA (off:Nat) (p:Aa) (k:IT)
 |FG (size bytes:Nat) (s x:Aa) (k:Aa->IT)
 |Fk (size bytes:Nat) (s x:Aa) (k:Aa->IT)
 |mem (o:pB) (args:List Aa) (k:Aa->IT)
 |pD (f:FuncId) (args:List Aa) (k:Aa->IT)
 deriving Inhabited
def Aa.KE:Aa->Bool
 | .bool _| .int _ _| .str _=>true
 |_=>false
def BE(h:Ag)(n:Option Nat):Aa->Option Aa
 | .Cb cs=>Ek cs 0 n
 | .ptr (some (id,off))=>match h[id]? with
  |some (.cells cs)=>Ek cs off n
  |_=>none
 |_=>none
def Cx(h:Ag)(n:Nat)(p v:Aa):Option Ag:=
 match p with
 | .ptr (some (id,off))=>match h[id]? with
  |some (.cells cs)=>if v.cells.length=n/\off+n<=cs.length then some (h.set id (.cells (cs.take off++v.cells++cs.drop (off+n)))) else none
  |_=>none
 |_=>none
def Wl(h:Ag)(n:Nat)(v:Aa):Option (Ag×Aa):=
 if v.cells.length=n then some (h++[.cells v.cells],.ptr (some (h.length,0))) else none
def So(s:Aq):List (Aa×Aa)->Option (Option Aa)
 |[]=>some none
 |(.str t,v)::es=>if s=t then some (some v) else So s es
 |_=>none
def MD(s:Aq)(v:Aa):List (Aa×Aa)->Option (List (Aa×Aa))
 |[]=>some [(.str s,v)]
 |(.str t,v')::es=>if s=t then some ((.str s,v)::es) else(MD s v es).map λes=>(.str t,v')::es
 |_=>none
def QP(h:Ag)(m k v:Aa):Option Ag:=
 match m,k with
 | .map (some id),.str s=>match h[id]? with
  |some (.map es)=>(MD s v es).map λes=>h.set id (.map es)
  |_=>none
 |_,_=>none
def Sp(h:Ag)(m k:Aa):Option (Option Aa):=
 match m,k with
 | .map none,.str _=>some none
 | .map (some id),.str s=>match h[id]? with
  |some (.map es)=>So s es
  |_=>none
 |_,_=>none
def QQ(h:Ag)(zero:Aa)(ok:Bool)(m k:Aa):Option Aa:=
 (Sp h m k).map λr=>match r with
  |some v=>if ok then .tuple [v,.bool true] else v
  |none=>if ok then .tuple [zero,.bool false] else zero
def fQ(h:Ag)(size bytes:Nat)(zero:List Aa):Aa->Aa->Option (Ag×Aa)
 | .int .i64 n,.int .i64 c=>if 0<=n/\n<=c/\c.toNat*bytes<=AO/\zero.length=size then
  some (h++[.cells (List.replicate c.toNat zero).flatten],.CG h.length 0 n.toNat size) else none
 |_,_=>none
def MK(size:Nat):Aa->Bool
 | .slnil=>true
 | .EV z=>z==size
 | .sl z []=>z==size
 |_=>false
def K9(h:Ag)(size bytes:Nat)(s:Aa):Aa->Option (Ag×Aa)
 | .sl z An=>if MK size s then(match An with
   |[]=>some (h,s)
   |An=>if z=size/\An.length*bytes<=AO then some (h++[.cells An.flatten],.CG h.length 0 An.length size) else none)
  else none
 | .slnil=>if MK size s then some (h,s) else none
 | .EV z=>if MK size s&&z==size then some (h,s) else none
 |_=>none
def HW(h:Ag):Aa->Option (Ag×Aa)
 | .str s=>if s.length<=AO then some (h++[.cells (s.map λb=> .int .u8 b.toNat)],.CG h.length 0 s.length 1) else none
 |_=>none
def B9(cs:List Aa)(z:Nat):Nat->Nat->List (List Aa)
 |_,0=>[]
 |off,n+1=>(cs.drop off).take z::B9 cs z (off+z) n
def La(h:Ag):Aa->Option (Ag×Aa)
 | .CG id off n z=>match h[id]? with
  |some (.cells cs)=>if off+n*z<=cs.length then some (h.set id .Ec,.sl z (B9 cs z off n)) else none
  |_=>none
 |v=>some (h,v)
def Kb(h:Ag)(off:Nat)(p:Aa):Option Ag:=
 match p with
 | .ptr none=>some h
 | .ptr (some (id,o))=>match h[id]? with
  |some (.cells cs)=>match cs[o+off]? with
   |some v=>(La h v).bind λ(h',v')=>match h'[id]? with
    |some (.cells Fx)=>some (h'.set id (.cells (Fx.set (o+off) v')))
    |_=>none
   |none=>none
  |_=>none
 |_=>none
def Gt(h:Ag)(size:Nat):Aa->Option (List (List Aa))
 | .slnil=>some []
 | .EV z=>if z=size then some [] else none
 | .sl z An=>if z=size then some An else none
 | .str s=>if size=1 then some (Cu s) else none
 | .CG id off n z=>if z=size then match h[id]? with
   |some (.cells cs)=>if off+n*z<=cs.length then some (B9 cs z off n) else none
   |_=>none
  else none
 |_=>none
def hgrow(h:Ag)(size bytes:Nat)(s x:Aa):Option (Ag×Aa):=
 match Gt h size x with
 |none=>none
 |some []=>match s with
  | .slnil=>some (h,s)
  | .EV z=>if z=size then some (h,s) else none
  | .CG _ _ _ z=>if z=size then some (h,s) else none
  |_=>none
 |some An=>match s with
  | .slnil=>if An.length*bytes<=AO then some (h++[.cells An.flatten],.CG h.length 0 An.length size) else none
  | .EV z=>if z=size/\An.length*bytes<=AO then some (h++[.cells An.flatten],.CG h.length 0 An.length size) else none
  | .CG id off n z=>match h[id]? with
   |some (.cells cs)=>if z=size then
     (if off+(n+An.length)*z<=cs.length then some (h.set id (.cells (cs.take (off+n*z)++An.flatten++cs.drop (off+(n+An.length)*z))),.CG id off (n+An.length) z)
     else if off=0/\n*z<=cs.length/\(n+An.length)*bytes<=AO then some (h.set id .Ec++[.cells (cs.take (n*z)++An.flatten)],.CG h.length 0 (n+An.length) z) else none)
    else none
   |_=>none
  |_=>none
def NX(h:Ag)(size bytes:Nat)(s x:Aa):Option Aa:=(Gt h size x).bind (CP size bytes s)
def pE(h:Ag)(size:Nat)(d x:Aa):Option (Ag×Aa):=
 match Gt h size x with
 |none=>none
 |some An=>match d with
  | .slnil=>if An.length=0 then some (h,.int .i64 0) else none
  | .CG id off n z=>match h[id]? with
   |some (.cells cs)=>if z=size/\An.length<=n/\off+n*z<=cs.length then some (h.set id (.cells (cs.take off++An.flatten++cs.drop (off+An.length*z))),.int .i64 An.length) else none
   |_=>none
  |_=>none
def Sq(h:Ag)(size:Nat)(zero:List Aa):Aa->Option (Ag×Aa)
 | .slnil=>some (h,.bool true)
 | .CG id off n z=>match h[id]? with
  |some (.cells cs)=>if z=size/\zero.length=size/\off+n*z<=cs.length then some (h.set id (.cells (cs.take off++(List.replicate n zero).flatten++cs.drop (off+n*z))),.bool true) else none
  |_=>none
 |_=>none
def Ya(h:Ag)(size:Nat)(lo hi:Bool)(s:Aa)(as:List Aa):Option (Ag×Aa):=
 match s with
 | .CG id off n z=>match h[id]? with
  |some (.cells cs)=>if z=size/\hi=true/\off<=cs.length then(Dx lo hi ((cs.length-off)/z) as).bind λ(l,r)=>if l<(cs.length-off)/z then some (h,.CG id (off+l*z) (r-l) z) else none else none
  |_=>none
 |_=>none
def Sr(size:Nat):List Aa->Bool
 |[s,.int _ l,.int _ r,.int _ m]=>match s with
  | .CG _ _ n z=>z=size&&decide (0<=l)&&decide (l<=r)&&decide (r<=m)&&decide (m<=n)
  | .sl z An=>z=size&&decide (0<=l)&&decide (l<=r)&&decide (r<=m)&&decide (m<=An.length)
  |_=>false
 |_=>false
def Ju(k:Int):List (Aa×Aa)->Nat->Option (Option (Nat×Aa))
 |[],_=>some none
 |(.int .i64 t,v)::es,i=>if k=t then some (some (i,v)) else Ju k es (i+1)
 |_,_=>none
def aE(zero:Aa)(ok:Bool):Option (Nat×Aa)->Aa
 |some (_,v)=>if ok then .tuple [v,.bool true] else v
 |none=>if ok then .tuple [zero,.bool false] else zero
def fR(h:Ag)(zero:Aa)(ok:Bool)(m k:Aa):Option (Ag×Aa):=
 match m,k with
 | .map none,.int .i64 _=>some (h,aE zero ok none)
 | .map (some id),.int .i64 n=>match h[id]? with
  |some (.map es)=>(Ju n es 0).map λr=>(h,aE zero ok r)
  |_=>none
 |_,_=>none
def RX(h:Ag)(zero m k:Aa):Option (Ag×Aa):=
 match m,k with
 | .map (some id),.int .i64 n=>match h[id]? with
  |some (.map es)=>(Ju n es 0).map λr=>match r with
   |some (i,v)=>(h,.tuple [v,.int .i64 i])
   |none=>(h.set id (.map (es++[(k,zero)])),.tuple [zero,.int .i64 es.length])
  |_=>none
 |_,_=>none
def Ss(k:Aq):List (Aa×Aa)->Nat->Option (Option (Nat×Aa))
 |[],_=>some none
 |(.str t,v)::es,i=>if k=t then some (some (i,v)) else Ss k es (i+1)
 |_,_=>none
def Wm(h:Ag)(zero m k:Aa):Option (Ag×Aa):=
 match m,k with
 | .map (some id),.str n=>match h[id]? with
  |some (.map es)=>(Ss n es 0).map λr=>match r with
   |some (i,v)=>(h,.tuple [v,.int .i64 i])
   |none=>(h.set id (.map (es++[(k,zero)])),.tuple [zero,.int .i64 es.length])
  |_=>none
 |_,_=>none
def RY(h:Ag)(m i v:Aa):Option (Ag×Aa):=
 match m,i with
 | .map (some id),.int .i64 n=>match h[id]? with
  |some (.map es)=>if 0<=n then match es[n.toNat]? with
   |some (k,_)=>some (h.set id (.map (es.set n.toNat (k,v))),.bool true)
   |none=>none
   else none
  |_=>none
 |_,_=>none
def pF(h:Ag)(m k v:Aa):Option (Ag×Aa):=
 match m,k with
 | .map (some id),.int .i64 n=>match h[id]? with
  |some (.map es)=>match Ju n es 0 with
   |some none=>some (h.set id (.map (es++[(.int .i64 n,v)])),.bool true)
   |_=>none
  |_=>none
 |_,_=>none
def Nv(h:Ag):List Aa->Option (Ag×Aa)
 |[.slnil,.int .i64 i,.sl 1 [[.int .i64 x]]]=>if i=0 then some (h++[.cells [.int .i64 x]],.CG h.length 0 1 1) else none
 |[.CG id 0 n 1,.int .i64 i,.sl 1 [[.int .i64 x]]]=>match h[id]? with
  |some (.cells cs)=>if 0<=i/\i.toNat<=n/\n<=cs.length/\(n+1)*8<=AO then some (h.set id .Ec++[.cells (cs.take i.toNat++[.int .i64 x]++(cs.take n).drop i.toNat)],.CG h.length 0 (n+1) 1) else none
  |_=>none
 |_=>none
def D4(o:pB)(h:Ag)(args:List Aa):Option (Ag×Aa):=
 match o with
 | .copy size=>match args with
  |[d,x]=>pE h size d x
  |_=>none
 | .clear size zero=>match args with
  |[s]=>Sq h size zero s
  |_=>none
 | .kL size lo hi=>match args with
  |s::as=>Ya h size lo hi s as
  |_=>none
 | .aD size=>if Sr size args then some (h,.bool true) else none
 | .wu t=>match args with
  |[v]=>some (h,.iface t v)
  |_=>none
 | .wI zero ok=>match args with
  |[m,k]=>fR h zero ok m k
  |_=>none
 | .LW zero=>match args with
  |[m,k]=>RX h zero m k
  |_=>none
 | .pC zero=>match args with
  |[m,k]=>Wm h zero m k
  |_=>none
 | .K8=>match args with
  |[m,i,v]=>RY h m i v
  |_=>none
 | .jk=>match args with
  |[m,k,v]=>pF h m k v
  |_=>none
 | .kM=>Nv h args
 | .P3 g=>g h args
def DE(f:FuncId):FuncId:=if f<=99999 then f else f%100000
def CM:Aa->List Aa->Option (FuncId×List Aa)
 | .func (.func f) first captured,args=>if f<=99999 then some (f,first++args++captured) else none
 |_,_=>none
abbrev IF:=EW×List Aa×Ag
def IT.step(fn:FuncId->List Aa->IT)(rec:IT->Ag->Option IF):IT->Ag->Option IF
 | .ret x vs,h=>some (x,vs,h)
 | .fail,_=>none
 | .op o args k,h=>match Ax o args with
  |some v=>IT.step fn rec (k v) h
  |none=>none
 | .cells n v k,h=>if v.cells.length=n then IT.step fn rec (k v.cells) h else none
 | .A4 c t e,h=>match c with
  | .bool true=>IT.step fn rec t h
  | .bool false=>IT.step fn rec e h
  |_=>none
 | .load n p k,h=>match BE h n p with
  |some v=>IT.step fn rec (k v) h
  |none=>none
 | .store n p v k,h=>match Cx h n p v with
  |some h'=>IT.step fn rec k h'
  |none=>none
 | .alloc n v k,h=>match Wl h n v with
  |some (h',p)=>IT.step fn rec (k p) h'
  |none=>none
 | .call f args k,h=>match rec (fn f args) h with
  |some (.ret,[r],h')=>IT.step fn rec (k r) h'
  |_=>none
 | .EK g args k,h=>match CM g args with
  |some (f,args)=>match rec (fn f args) h with
   |some (.ret,[r],h')=>IT.step fn rec (k r) h'
   |_=>none
  |none=>none
 | .Ck f args k,h=>if args.all Aa.KE then match rec (fn f args) [] with
   |some (.ret,[r],_)=>if r.KE then IT.step fn rec (k r) h else none
   |_=>none
  else none
 | .loop key init body k,h=>match IT.step fn rec (body init) h with
  |some (.normal,vs,h')=>rec (.loop key vs body k) h'
  |some (x,vs,h')=>IT.step fn rec (k x vs) h'
  |none=>none
 | .EM _ t k,h=>match IT.step fn rec t h with
  |some (x,vs,h')=>IT.step fn rec (k x vs) h'
  |none=>none
 | .same a b k,h=>if Aa.beq a b then IT.step fn rec k h else none
 | .NO k,h=>IT.step fn rec (k (.map (some h.length))) (h++[.map []])
 | .Ja m key v k,h=>match QP h m key v with
  |some h'=>IT.step fn rec k h'
  |none=>none
 | .Ls zero ok m key k,h=>match QQ h zero ok m key with
  |some v=>IT.step fn rec (k v) h
  |none=>none
 | .make size bytes zero len cap k,h=>match fQ h size bytes zero len cap with
  |some (h',v)=>IT.step fn rec (k v) h'
  |none=>none
 | .IE size bytes s x k,h=>match K9 h size bytes s x with
  |some (h',v)=>IT.step fn rec (k v) h'
  |none=>none
 | .EE s k,h=>match HW h s with
  |some (h',v)=>IT.step fn rec (k v) h'
  |none=>none
 | .Sn v k,h=>match La h v with
  |some (h',v')=>IT.step fn rec (k v') h'
  |none=>none
 | .HA off p k,h=>match Kb h off p with
  |some h'=>IT.step fn rec k h'
  |none=>none
 | .FG size bytes s x k,h=>match hgrow h size bytes s x with
  |some (h',v)=>IT.step fn rec (k v) h'
  |none=>none
 | .Fk size bytes s x k,h=>match NX h size bytes s x with
  |some v=>IT.step fn rec (k v) h
  |none=>none
 | .mem o args k,h=>match D4 o h args with
  |some (h',v)=>IT.step fn rec (k v) h'
  |none=>none
 | .pD f args k,h=>match rec (fn f args) [] with
  |some (.ret,[r],_)=>if r.KE then IT.step fn rec (k r) h else none
  |_=>none
def IT.run(fn:FuncId->List Aa->IT):Nat->IT->Ag->Option IF
 |0=>λ_ _=>none
 |n+1=>IT.step fn (IT.run fn n)
end Go.Am
end
section
namespace Go.Am
inductive Sh where
 |val
 |Bn
 |box (n:Nat) (Bn:List Nat)
 deriving Inhabited
inductive fS where
 |ML|heap
 deriving DecidableEq,Inhabited
structure E7 where
 P:Program
 jn:FuncId->Nat->List (Nat×Sh)
 QR:FuncId->Nat->Option (List (Nat×Sh))
 du:FuncId->Nat->Option (List (Nat×Sh))
 kind:FuncId->Nat->fS
 HP:FuncId->Bool
 dv:FuncId->Bool
 kN:FuncId->Nat->Bool
 wz:FuncId->Nat->Bool
 pG:FuncId->Bool
 pH:FuncId->List (Nat×Nat)
 Fl:Nat->Option (List Aa)
 jo:FuncId->Option (List Aa->IT)
 w_:FuncId->FuncId->FuncId
 Mr:FuncId->Bool
inductive DK where
 |pure (ws:List (Nat×Dw))
 |op (p:Ur) (args:List Aa) (dst:Option Nat) (Bn:Bool) (CU:Option (Nat×Aa))
 |box (n:Nat) (v:Aa) (dst:Nat)
 |JS (fn:Fn) (first captured:List Aa) (froze:List (Nat×List Aa)) (dst:Nat)
 |Lb (s off n:Nat) (v:Aa) (Bn:Bool) (CU:Option (Nat×Aa)) (ver:Nat) (cells:List Aa) (owned:List Nat)
 |load (n:Option Nat) (p:Aa) (dst:Option Nat)
 |store (n:Nat) (p v:Aa)
 |alloc (n:Nat) (v:Aa) (dst:Option Nat)
 |call (f:FuncId) (args:List Aa) (dst:Option Nat)
 |EK (g:Aa) (args:List Aa) (dst:Option Nat)
 |Ck (f:FuncId) (args:List Aa) (dst:Option Nat)
 |NO (dst:Option Nat)
 |Ja (m k v:Aa)
 |Ls (zero:Aa) (ok:Bool) (m k:Aa) (dst:Option Nat)
 |make (size bytes:Nat) (zero:List Aa) (len cap:Aa) (dst:Option Nat)
 |IE (size bytes:Nat) (s x:Aa) (dst:Option Nat) (CU:Option (Nat×Aa))
 |FG (size bytes:Nat) (s x:Aa) (dst:Option Nat)
 |Fk (size bytes:Nat) (s x:Aa) (dst:Option Nat) (CU:Option (Nat×Aa))
 |EE (s:Aa) (dst:Option Nat)
 |Uu (v:Aa) (dst:Option Nat)
 |mem (o:pB) (args:List Aa) (dst:Option Nat)
def BD(P:Program)(t:TypeId):Option Nat:=(P.info? t).map (·.size)
def Ig(P:Program)(t:TypeId):Option Nat:=(P.info? t).map (·.bytes)
def Ei(P:Program)(t:TypeId):Option (Option Nat):=
 match P.underlying t with
 |some (.struct _)|some (.array _ _)=>(BD P t).map some
 |some _=>some none
 |none=>none
def Fy(P:Program)(t:TypeId):Option Aa:=((P.info? t).bind (·.zero)).bind I4
def Su(rec:TypeId->Option (List FK)):List Field->Nat->Option (List FK)
 |[],_=>some []
 |f::fs,off=>if f.name≠ "_"/\f.offset=off then match rec f.type with
   |some ks=>(Su rec fs (off+ks.length)).map (ks++·)
   |none=>none
  else none
def MM(P:Program):Nat->TypeId->Option (List FK)
 |0,_=>none
 |d+1,t=>
  let one (k:FK):Option (List FK):=if BD P t=some 1 then some [k] else none
  match P.underlying t with
  |some .bool=>one .b
  |some (.int _)=>one .i
  |some .string=>one .s
  |some (.struct fs)=>match Su (MM P d) fs.toList 0 with
   |some ks=>if BD P t=some ks.length/\P.stoodInHeld t=false then some ks else none
   |none=>none
  |_=>none
def GI(P:Program)(s:TypeId)(f:Nat):Option (Nat×Option Nat):=
 match P.underlying s with
 |some (.struct fs)=>match fs[f]? with
  |some fd=>match BD P fd.type,Ei P fd.type with
   |some (_+1),some a=>some (fd.offset,a)
   |_,_=>none
  |none=>none
 |_=>none
def Dg(C:E7)(U:Bq):Operand->Option Dw
 | .tmp t=>some (U.at t)
 | .const (.bool b)=>some (.MC b)
 | .const (.slice none 0 0)=>some (.Bn .slnil)
 | .const v=>(I4 v).map .val
 | .global g=>(C.Fl g).map λcs=> .val (.Cb cs)
 | .func f=>some (.val (.func (.func f) [] []))
def DX(C:E7)(U:Bq)(x:Operand):Option Aa:=(Dg C U x).bind Dw.FM
def A0(C:E7)(U:Bq):List Operand->Option (List Aa)
 |[]=>some []
 |x::xs=>match DX C U x,A0 C U xs with
  |some v,some vs=>some (v::vs)
  |_,_=>none
def pI(ops:List Oper)(d:Nat):Bool:=
 ops.any λo=>match o.op with
  | .call c=>(match c.callee with| .builtin .append=>true|_=>false)&&(match(c.args[0]?:Option Operand) with|some (.tmp t)=>t==d|_=>false)
  |_=>false
def GJ:Dw->Option Dw
 | .val v=>some (.val v)
 | .MC b=>some (.MC b)
 | .Bn v=>some (.val v)
 | .Ed s o=>some (.Ed s o)
 |_=>none
def OU(x:Operand)(v:Aa):List (Nat×Dw):=
 match x with
 | .tmp s=>[(s,.val v)]
 |_=>[]
def IK(C:E7)(U:Bq)(x:Operand)(d:Nat)(take:Bool):Option DK:=
 match x,Dg C U x with
 | .tmp s,some (.box _ _ _)=>some (.pure [(d,.Ed s 0)])
 | .const _,some sl=>some (.pure [(d,sl)])
 |x,some (.Bn v)=>if take then some (.pure (OU x v++[(d,.Bn v)])) else(GJ (.Bn v)).map λs=> .pure [(d,s)]
 |_,some s=>(GJ s).map λs=> .pure [(d,s)]
 |_,none=>none
def Sv(cs:List Aa):List Nat:=(List.range cs.length).filter λi=>match cs.getD i .nilIface with| .slnil=>true|_=>false
def Lc(U:Bq)(ds:List Nat):Bool:=U.all λs=>match s with| .Ed s _=> !ds.contains s|_=>true
def Bq.drop(U:Bq)(ds:List Nat):Bq:=match ds with|[]=>U|ds=>U.map λs=>match s with| .Ed s o=>if ds.contains s then .undef else .Ed s o|s=>s
def QS(C:E7)(fid:FuncId)(t:TypeId)(v:Aa)(d:Nat):Option DK:=
 match BD C.P t with
 |none=>none
 |some n=>if n=0 then none else match C.kind fid d with
  | .ML=>some (.box n v d)
  | .heap=>some (.alloc n v (some d))
inductive jq where
 |ML (s off ver:Nat) (cells:List Aa) (Bn:List Nat)
 |ptr (p:Aa)
def EX(C:E7)(U:Bq)(x:Operand):Option jq:=
 match x,Dg C U x with
 | .tmp s,some (.box ver cs ow)=>some (.ML s 0 ver cs ow)
 |_,some (.Ed s o)=>match U.at s with
  | .box ver cs ow=>some (.ML s o ver cs ow)
  |_=>none
 |_,some s=>s.FM.map .ptr
 |_,none=>none
def CA(U:Bq):Operand->Option (Nat×Aa)
 | .tmp s=>match U.at s with
  | .Bn v=>some (s,v)
  |_=>none
 |_=>none
def Jb(C:E7)(U:Bq)(x:Operand):Bool:=match Dg C U x with|some (.Bn _)=>true|_=>false
def Jv(C:E7)(U:Bq)(t:TypeId)(x:Operand)(d:Nat)(take:Bool):Option DK:=
 match Ei C.P t,EX C U x with
 |some n,some (.ptr p)=>some (.load n p (some d))
 |some none,some (.ML s o ver cs ow)=>
  if o<cs.length then
   let v:=cs.getD o .nilIface
   if ow.contains o&& !(ow.erase o).contains o&&take then some (.pure [(s,.box (ver+1) cs (ow.erase o)),(d,.Bn v)])
   else some (.pure [(d,.val v)])
  else none
 |some (some n),some (.ML _ o _ cs _)=>if o+n<=cs.length then some (.pure [(d,.val (.agg ((cs.drop o).take n)))]) else none
 |_,_=>none
def HJ(C:E7)(U:Bq)(t:TypeId)(x y:Operand):Option DK:=
 match BD C.P t,Ei C.P t,EX C U x,DX C U y with
 |some (n+1),_,some (.ptr p),some v=>some (.store (n+1) p v)
 |some (n+1),some a,some (.ML s o ver cs ow),some v=>
  if o+(n+1)<=cs.length then
   let Bn:=a.isNone&&Jb C U y
   some (.Lb s o (n+1) v Bn (if Bn then CA U y else none) ver cs ow)
  else none
 |_,_,_,_=>none
def P5(P:Program)(t:TypeId)(neg:Bool)(u:TypeDesc):Option Ur:=
 match u with
 | .bool=>some (.beq neg)
 | .struct _=>if P.eqGuardType P.depth t=false then(MM P 20 t).map (.geq neg) else none
 | .pointer e=>if(BD P e).getD 0=0 then none else some (.RW neg)
 | .slice _=>some (.FN neg .sl)
 | .func _ _ _=>some (.FN neg .fn)
 | .map _ _=>some (.FN neg .mp)
 |_=>none
def Nw(P:Program)(op:BinOp)(t:TypeId):Option Ur:=
 match P.underlying t with
 |some (.int _)=>some (.int op)
 |some .string=>some (.str op)
 |some u=>match op with
  | .eql=>P5 P t false u
  | .neq=>P5 P t true u
  |_=>none
 |none=>none
def P6(p:Ur)(dst:Option Nat):Option (List Aa)->Option DK
 |some args=>some (.op p args dst false none)
 |none=>none
def Ih(P:Program)(t:TypeId):List (Nat×Operand)->Option (List (Nat×Nat))
 |[]=>some []
 |(i,_)::rest=>match P.underlying t with
  |some (.struct fs)=>match fs[i]? with
   |some f=>match BD P f.type,Ih P t rest with
    |some n,some r=>some ((f.offset,n)::r)
    |_,_=>none
   |none=>none
  |some (.array len e)=>if i<len then match BD P e,Ih P t rest with
    |some n,some r=>some ((i*n,n)::r)
    |_,_=>none
   else none
  |_=>none
def Kc(P:Program)(t:TypeId):Bool:=
 match P.info? t with
 |some i=>match i.zero with
  |some z=>z.cells.size==i.size
  |none=>false
 |none=>false
def RZ(P:Program)(t:TypeId):Bool:=
 match P.underlying t with
 |some (.struct fs)=>fs.toList.all λf=>(BD P f.type).isSome
 |some (.array _ e)=>(BD P e).isSome
 |_=>false
def P7(o:pB)(dst:Option Nat):Option (List Aa)->Option DK
 |some args=>some (.mem o args dst)
 |none=>none
def Oe(C:E7)(fid:FuncId)(U:Bq)(c:Call)(dst:Option Nat):Option DK:=
 match c.callee with
 | .builtin .len=>match c.argTypes[0]? with
  |some t=>match C.P.underlying t with
   |some .string=>P6 (.len true) dst (A0 C U c.args.toList)
   |some (.slice _)=>P6 (.len false) dst (A0 C U c.args.toList)
   |_=>none
  |none=>none
 | .builtin .append=>match c.argTypes[0]?,c.argTypes[1]?,c.args.toList with
  |some t,some t',[s,x]=>match C.P.underlying t,C.P.underlying t' with
   |some (.slice e),some (.slice _)|some (.slice e),some .string=>match BD C.P e,Ig C.P e with
    |some (n+1),some (b+1)=>if Kc C.P e then match A0 C U [s,x] with
      |some [v,u]=>if Jb C U s then
        (if(dst.map (C.kN fid)).getD false then some (.IE (n+1) (b+1) v u dst (CA U s))
        else if(dst.map (C.wz fid)).getD false then some (.Fk (n+1) (b+1) v u dst (CA U s))
        else some (.op (.append (n+1) (b+1)) [v,u] dst true (CA U s)))
       else if(dst.map (C.kN fid)).getD false then some (.FG (n+1) (b+1) v u dst) else none
      |_=>none
     else none
    |_,_=>none
   |_,_=>none
  |_,_,_=>none
 | .builtin .copy=>match c.argTypes[0]?,c.argTypes[1]?,c.args.toList with
  |some t,some t',[s,x]=>match C.P.underlying t,C.P.underlying t' with
   |some (.slice e),some (.slice _)|some (.slice e),some .string=>match BD C.P e with
    |some (n+1)=>P7 (.copy (n+1)) dst (A0 C U [s,x])
    |_=>none
   |_,_=>none
  |_,_,_=>none
 | .builtin .clear=>match c.argTypes[0]?,c.args.toList with
  |some t,[s]=>match C.P.underlying t with
   |some (.slice e)=>match BD C.P e,Fy C.P e with
    |some (n+1),some z=>P7 (.clear (n+1) z.cells) dst (A0 C U [s])
    |_,_=>none
   |_=>none
  |_,_=>none
 | .builtin .max=>if c.args.size=2 then P6 (.Jt true) dst (A0 C U c.args.toList) else none
 | .builtin .min=>if c.args.size=2 then P6 (.Jt false) dst (A0 C U c.args.toList) else none
 | .value (.func f)=>if C.Mr f then(match c.args.toList with
  |[s,i,v]=>if Jb C U v then P7 .kM dst (A0 C U [s,i,v]) else none
  |_=>none) else if DE (C.w_ fid f)=f then(A0 C U c.args.toList).map λargs=>if C.dv (C.w_ fid f) then .Ck (C.w_ fid f) args dst else .call (C.w_ fid f) args dst else none
 | .value g=>match DX C U g,A0 C U c.args.toList with
  |some g,some args=>some (.EK g args dst)
  |_,_=>none
 |_=>none
def Sw(C:E7)(src dst:TypeId):Option (Option Ur):=
 match C.P.underlying src,C.P.underlying dst with
 |some (.int _),some (.int k)=>some (some (.conv k))
 |some (.int _),some .string=>some (some .ź)
 |some .string,some .string=>some none
 |some (.slice e),some .string=>match C.P.underlying e with
  |some (.int .u8)=>some (some .Uu)
  |_=>none
 |some .string,some (.slice e)=>match C.P.underlying e,BD C.P e,Ig C.P e with
  |some (.int .u8),some 1,some 1=>some (some .ur)
  |_,_,_=>none
 |_,_=>none
def EY(C:E7)(U:Bq):List Operand->Option (List Aa×List (Nat×List Aa))
 |[]=>some ([],[])
 |x::xs=>match EY C U xs with
  |none=>none
  |some (vs,fz)=>match x,Dg C U x with
   | .tmp s,some (.box _ cs _)=>if(fz.map (·.1)).contains s then none else some (.Cb cs::vs,(s,cs)::fz)
   |_,some sl=>match sl.FM with
    |some v=>some (v::vs,fz)
    |none=>none
   |_,none=>none
def EZ(C:E7)(fid:FuncId)(ops:List Oper)(U:Bq)(o:Oper):Option DK:=
 match o.op with
 | .move x=>match o.dst with
  |some d=>IK C U x d (pI ops d)
  |none=>none
 | .assign x=>match o.dst with
  |some d=>IK C U x d true
  |none=>none
 | .pick c a b=>match Dg C U c,o.dst with
  |some (.MC true),some d=>IK C U a d false
  |some (.MC false),some d=>IK C U b d false
  |_,dst=>P6 .pick dst (A0 C U [c,a,b])
 | .alloc t=>match o.dst,Fy C.P t with
  |some d,some z=>match C.kind fid d with
   | .ML=>if BD C.P t=some z.cells.length/\z.cells≠[] then some (.pure [(d,.box 0 z.cells (Sv z.cells))]) else none
   |_=>QS C fid t z d
  |_,_=>none
 | .box t x=>match o.dst,DX C U x with
  |some d,some v=>QS C fid t v d
  |_,_=>none
 | .build t parts=>match Fy C.P t,Ih C.P t parts.toList with
  |some z,some ps=>if RZ C.P t then P6 (.B4 z.cells ps) o.dst (A0 C U (parts.toList.map (·.2))) else none
  |_,_=>none
 | .buildSlice t len parts=>match C.P.underlying t with
  |some (.slice e)=>match BD C.P e with
   |some (n+1)=>if parts.toList.map (·.1)=List.range len/\Kc C.P e=true then if len=0/\(o.dst.map (C.kN fid)).getD false=true then some (.op (.EV (n+1)) [] o.dst true none) else(A0 C U (parts.toList.map (·.2))).map λargs=> .op (.Cd (n+1)) args o.dst true none else none
   |_=>none
  |_=>none
 | .load t x=>match o.dst with
  |some d=>Jv C U t x d (pI ops d)
  |none=>none
 | .store t x y=>match o.dst with
  |none=>HJ C U t x y
  |some _=>none
 | .nilCheck x=>match x,Dg C U x,o.dst with
  | .tmp s,some (.box _ _ _),some d=>some (.pure [(d,.Ed s 0)])
  |_,some (.Ed s k),some d=>some (.pure [(d,.Ed s k)])
  |x,_,dst=>P6 .J9 dst (A0 C U [x])
 | .binOp op t x y _=>match Nw C.P op t with
  |some p=>P6 p o.dst (A0 C U [x,y])
  |none=>none
 | .unOp op _ x=>P6 (.un op) o.dst (A0 C U [x])
 | .convert src dst x=>match Sw C src dst with
  |some (some .Uu)=>(DX C U x).map λv=> .Uu v o.dst
  |some (some .ur)=>if(o.dst.map (C.kN fid)).getD false then(DX C U x).map λv=> .EE v o.dst else P6 .ur o.dst (A0 C U [x])
  |some (some p)=>P6 p o.dst (A0 C U [x])
  |_=>none
 | .makeFunc fn first captured=>match o.dst,A0 C U first.toList,EY C U captured.toList with
  |some d,some a,some (b,fz)=>some (.JS fn a b fz d)
  |_,_,_=>none
 | .makeMap _ none=>some (.NO o.dst)
 | .makeSlice t l c=>match C.P.underlying t with
  |some (.slice e)=>match BD C.P e,Ig C.P e,Fy C.P e,DX C U l,DX C U c with
   |some (n+1),some (b+1),some z,some l,some c=>some (.make (n+1) (b+1) z.cells l c o.dst)
   |_,_,_,_,_=>none
  |_=>none
 | .insert t m k v| .mapUpdate t m k v=>match C.P.underlying t with
  |some (.map kt _)=>match o.dst,C.P.underlying kt,A0 C U [m,k,v] with
   |none,some .string,some [m,k,v]=>some (.Ja m k v)
   |none,some (.int .i64),some [m,k,v]=>some (.mem .jk [m,k,v] none)
   |_,_,_=>none
  |_=>none
 | .lookup t m k ok=>match C.P.underlying t with
  |some (.map kt e)=>match C.P.underlying kt,Fy C.P e,A0 C U [m,k] with
   |some .string,some z,some [m,k]=>some (.Ls z ok m k o.dst)
   |some (.int .i64),some z,some [m,k]=>some (.mem (.wI z ok) [m,k] o.dst)
   |_,_,_=>none
  |_=>none
 | .slice t x (some lo) (some hi) (some mx)=>match C.P.underlying t with
  |some (.slice e)=>match BD C.P e with
   |some (n+1)=>P7 (.aD (n+1)) o.dst (A0 C U [x,lo,hi,mx])
   |_=>none
  |_=>none
 | .makeInterface t x=>match C.P.underlying t with
  |some (.interface _)=>none
  |some _=>P7 (.wu t) o.dst (A0 C U [x])
  |none=>none
 | .mapEntry t m k=>match C.P.underlying t with
  |some (.map kt e)=>match C.P.underlying kt,Fy C.P e with
   |some (.int .i64),some z=>P7 (.LW z) o.dst (A0 C U [m,k])
   |some .string,some z=>P7 (.pC z) o.dst (A0 C U [m,k])
   |_,_=>none
  |_=>none
 | .entryStore _ m s v=>match o.dst with
  |none=>P7 .K8 none (A0 C U [m,s,v])
  |some _=>none
 | .slice t x lo hi none=>match C.P.underlying t with
  |some .string=>P6 (.P4 0 true lo.isSome hi.isSome) o.dst (A0 C U (x::(lo.toList++hi.toList)))
  |some (.slice e)=>match BD C.P e with
   |some (n+1)=>if(o.dst.map (C.kN fid)).getD false then P7 (.kL (n+1) lo.isSome hi.isSome) o.dst (A0 C U (x::(lo.toList++hi.toList)))
    else P6 (.P4 (n+1) false lo.isSome hi.isSome) o.dst (A0 C U (x::(lo.toList++hi.toList)))
   |_=>none
  |_=>none
 | .fieldAddr t x f=>match GI C.P t f,o.dst with
  |some (off,_),some d=>match x,Dg C U x with
   | .tmp s,some (.box _ _ _)=>some (.pure [(d,.Ed s off)])
   |_,some (.Ed s k)=>some (.pure [(d,.Ed s (k+off))])
   |x,_=>P6 (.FE off) (some d) (A0 C U [x])
  |_,_=>none
 | .field t x f=>match GI C.P t f with
  |some (off,g)=>P6 (.part off g) o.dst (A0 C U [x])
  |none=>none
 | .indexAddr t x i=>match C.P.underlying t with
  |some (.slice e)=>match BD C.P e with
   |some (n+1)=>P6 (.F8 (n+1)) o.dst (A0 C U [x,i])
   |_=>none
  |some (.array len e)=>match BD C.P e with
   |some (n+1)=>if len<=1 then none else P6 (.Sm len (n+1)) o.dst (A0 C U [x,i])
   |_=>none
  |_=>none
 | .index t x i=>match C.P.underlying t with
  |some .string=>P6 .X7 o.dst (A0 C U [x,i])
  |some (.array len e)=>match BD C.P e,Ei C.P e with
   |some (n+1),some g=>P6 (.jl len (n+1) g) o.dst (A0 C U [x,i])
   |_,_=>none
  |_=>none
 | .extract x i=>P6 (.ext i) o.dst (A0 C U [x])
 | .call c=>Oe C fid U c o.dst
 |_=>none
def Bq.Dr(U:Bq):List (Nat×Dw)->Bq
 |[]=>U
 |(s,x)::ws=>Bq.Dr (U.set s x) ws
def Bq.put(U:Bq)(dst:Option Nat)(x:Dw):Bq:=
 match dst with
 |some d=>U.set d x
 |none=>U
def Bq.CU(U:Bq):Option (Nat×Aa)->Bq
 |some (s,v)=>U.set s (.val v)
 |none=>U
def Sx(n:Nat)(cs:List Aa):List Aa:=(List.range n).map λi=>cs.getD i .nilIface
def Sy(cs:List Aa)(off n:Nat)(vs:List Aa):List Aa:=cs.take off++vs++cs.drop (off+n)
def OV(owned:List Nat)(off n:Nat)(Bn:Bool):List Nat:=
 let rest:=owned.filter λo=> !(off<=o&&o<off+n)
 if Bn then off::rest else rest
def DK.Ld(C:E7)(U:Bq)(K:Bq->IT):DK->IT
 | .pure ws=>K (U.Dr ws)
 | .op p args dst Bn e=> .op p args λv=>K ((U.CU e).put dst (if Bn then .Bn v else .val v))
 | .box n v d=> .cells n v λcs=>K (U.set d (.box 0 (Sx n cs) []))
 | .JS fn a b fz d=>K ((U.Dr (fz.map λ(s,cs)=>(s,.val (.Cb cs)))).set d (.val (.func fn a b)))
 | .Lb s off n v Bn e ver cells owned=> .cells n v λvs=>K ((U.CU e).set s (.box (ver+1) (Sy cells off n (Sx n vs)) (OV owned off n Bn)))
 | .load n p dst=> .load n p λv=>K (U.put dst (.val v))
 | .store n p v=> .store n p v (K U)
 | .alloc n v dst=> .alloc n v λp=>K (U.put dst (.val p))
 | .call f args dst=> .call f args λr=>K (U.put dst (if C.HP f then .Bn r else .val r))
 | .EK g args dst=> .EK g args λr=>K (U.put dst (.val r))
 | .Ck f args dst=> .Ck f args λr=>K (U.put dst (.val r))
 | .NO dst=> .NO λm=>K (U.put dst (.val m))
 | .Ja m k v=> .Ja m k v (K U)
 | .Ls z ok m k dst=> .Ls z ok m k λv=>K (U.put dst (.val v))
 | .make z b zero l c dst=> .make z b zero l c λv=>K (U.put dst (.val v))
 | .IE z b s x dst e=> .IE z b s x λv=>K ((U.CU e).put dst (.val v))
 | .FG z b s x dst=> .FG z b s x λv=>K (U.put dst (.val v))
 | .Fk z b s x dst e=> .Fk z b s x λv=>K ((U.CU e).put dst (.Bn v))
 | .EE s dst=> .EE s λv=>K (U.put dst (.val v))
 | .Uu v dst=> .Sn v λv=> .op .Uu [v] λu=>K (U.put dst (.val u))
 | .mem o args dst=> .mem o args λv=>K (U.put dst (if o.wv then .undef else .val v))
def DK.news:DK->List Nat
 | .pure ws=>ws.filterMap λ(s,x)=>match x with| .box 0 _ _=>some s|_=>none
 | .box _ _ d=>[d]
 | .JS _ _ _ fz _=>fz.map (·.1)
 |_=>[]
inductive xa where
 |Lt (run:Bool)
 |ask (aF:Nat) (v:Aa) (want:Bool)
 |jr
def Hc(ops:List Oper)(U:Bq)(o:Oper):xa:=
 match o.guard with
 |none=> .Lt true
 |some (j,want)=>match(ops[j]?).bind (·.dst) with
  |some s=>match U.at s with
   | .MC b=> .Lt (b==want)
   | .val v=> .ask s v want
   | .skip=> .Lt false
   |_=> .jr
  |none=> .jr
def pJ(C:E7)(fid:FuncId)(ops:List Oper)(U:Bq)(o:Oper)(K:Bq->IT):IT:=
 match EZ C fid ops U o with
 |some r=>r.Ld C (U.drop r.news) K
 |none=> .fail
def P8(C:E7)(fid:FuncId)(ops:List Oper)(U:Bq)(o:Oper)(K:Bq->IT):IT:=
 match Hc ops U o with
 | .Lt true=>pJ C fid ops U o K
 | .Lt false=>K (U.put o.dst .skip)
 | .ask s v want=>
  let t:=if want then pJ C fid ops (U.set s (.MC true)) o K else K (Bq.put (U.set s (.MC true)) o.dst .skip)
  let e:=if want then K (Bq.put (U.set s (.MC false)) o.dst .skip) else pJ C fid ops (U.set s (.MC false)) o K
  .A4 v t e
 | .jr=> .fail
def P9:FuncId->Bool
 |_=>false
def OW(C:E7)(U:Bq)(o:Oper):List (Nat×List Aa):=
 match o.op with
 | .call c=>(match c.callee with
  | .value (.func f)=>if P9 f then(match EY C U c.args.toList with|some (_,fz)=>fz|none=>[]) else[]
  |_=>[])
 |_=>[]
def js(C:E7)(U:Bq)(o:Oper):Bq:=(U.drop ((OW C U o).map (·.1))).Dr ((OW C U o).map λ(s,cs)=>(s,.val (.Cb cs)))
def fU(C:E7)(fid:FuncId)(ops:List Oper):List Oper->Bq->(Bq->IT)->IT
 |[],U,K=>K U
 |o::rest,U,K=>P8 C fid ops (js C U o) o λU=>fU C fid ops rest U K
end Go.Am
end
section
namespace Go.Am
def Oper.Rw(o:Oper):List Nat:=o.after.toList.filterMap λe=>if Region.binds .any e then some e.on else none
def uv(i:Nat):Nat:=2^i
def Jc(C2:List Nat):List Oper->List Nat
 |[]=>C2
 |o::rest=>Jc (C2++[(Oper.Rw o).foldl (λm e=>m|||uv e|||C2.getD e 0) 0]) rest
def SA(ops:List Oper):List Nat:=Jc [] ops
def Dy(an:List Nat)(i j:Nat):Bool:=(an.getD j 0).testBit i
def dw(o:Oper):Bool:=
 match o.op with
 | .call c=>(match c.callee with| .builtin .copy| .builtin .clear=>true| .builtin _=>false|_=>true)
 | .store _ _ _| .insert _ _ _ _| .mapUpdate _ _ _ _| .makeMap _ _| .makeSlice _ _ _| .mapEntry _ _ _| .entryStore _ _ _ _=>true
 |_=>false
def SB(all:List Oper)(C2:List Nat):List Oper->List Nat
 |[]=>C2
 |o::rest=>SB all (C2++[(Oper.Rw o).foldl (λm e=>Nat.max m (C2.getD e 0+(match all[e]? with|some x=>if dw x then 1 else 0|none=>0))) 0]) rest
def wJ(ops:List Oper):List Nat:=
 let st:=SB ops [] ops
 let idx:=List.range ops.length
 let OR:=λi=>match ops[i]? with|some o=>dw o|none=>false
 (List.range (ops.length+1)).flatMap λs=>(idx.filter λi=>st.getD i 0==s&& !OR i)++(idx.filter λi=>st.getD i 0==s&&OR i)
structure FP where
 rs:List Nat
 wf:List Nat
 hl:Bool
 OR:Bool
 news:List Nat
 lr:List Nat
 Qa:Bool
 deriving Inhabited
def Ii(xs:List Operand):List Nat:=xs.filterMap λ| .tmp t=>some t|_=>none
def LX(C:E7)(U:Bq)(x:Operand):Option Nat:=
 match EX C U x with
 |some (.ML s _ _ _ _)=>some s
 |_=>none
def Gq(C:E7)(U:Bq)(o:Oper):List Nat:=
 match o.op with
 | .load _ x=>(LX C U x).toList
 | .store _ x _=>(LX C U x).toList
 | .makeFunc _ _ captured=>Ii captured.toList
 |_=>[]
def DK.wf:DK->List Nat
 | .pure ws=>ws.map (·.1)
 | .op _ _ dst _ a=>dst.toList++(a.map (·.1)).toList
 | .box _ _ d=>[d]
 | .JS _ _ _ fz d=>d::fz.map (·.1)
 | .Lb s _ _ _ _ a _ _ _=>s::(a.map (·.1)).toList
 | .load _ _ dst| .alloc _ _ dst| .call _ _ dst| .EK _ _ dst| .Ck _ _ dst| .NO dst| .Ls _ _ _ _ dst| .make _ _ _ _ _ dst| .EE _ dst| .Uu _ dst| .FG _ _ _ _ dst| .mem _ _ dst=>dst.toList
 | .IE _ _ _ _ dst a| .Fk _ _ _ _ dst a=>dst.toList++(a.map (·.1)).toList
 | .store _ _ _| .Ja _ _ _=>[]
def DK.hl:DK->Bool
 | .load _ _ _| .Ls _ _ _ _ _=>true
 |_=>false
def DK.OR:DK->Bool
 | .store _ _ _| .alloc _ _ _| .call _ _ _| .EK _ _ _| .NO _| .Ja _ _ _| .make _ _ _ _ _ _| .IE _ _ _ _ _ _| .EE _ _| .Uu _ _| .FG _ _ _ _ _| .Fk _ _ _ _ _ _| .mem _ _ _=>true
 |_=>false
def Et(ops:List Oper)(o:Oper):List Nat:=
 match o.guard with
 |none=>[]
 |some (j,_)=>((ops[j]?).bind (·.dst)).toList
def R4(xs:List Dw):List Nat:=xs.filterMap λ| .Ed t _=>some t|_=>none
def DK.fV:DK->List Nat
 | .pure ws=>R4 (ws.map (·.2))
 |_=>[]
def DK.Qa(U:Bq)(r:DK):Bool:=
 Lc U r.news&&match r with
  | .load _ _ (some d)=>decide (d<U.length)
  | .load _ _ none| .Ls _ _ _ _ _| .JS _ _ _ (_::_) _=>false
  |_=>true
def Rx(C:E7)(ops:List Oper)(U:Bq)(o:Oper)(r:Option DK):FP:=
 match r with
 |none=>{rs:=Et ops o,wf:=o.dst.toList,hl:=false,OR:=false,news:=[],lr:=R4 (o.dst.toList.map U.at),Qa:=true}
 |some r=>{rs:=Et ops o++Ii o.op.operands.toList++Gq C U o,wf:=r.wf++o.dst.toList,hl:=r.hl,OR:=r.OR,news:=r.news,lr:=R4 ((r.wf++o.dst.toList).map U.at)++r.fV,Qa:=r.Qa U}
def QT(a b:List Nat):Bool:=a.any λx=>b.contains x
def FP.apart(x y:FP):Bool:= !QT x.wf (y.rs++y.wf)&& !QT y.wf x.rs&& !QT x.lr y.news&& !QT y.lr x.news
def Of(x y:FP):Bool:=x.Qa&&y.Qa&&x.apart y&& !(x.OR&&y.OR)&& !(x.OR&&y.hl)
def SC(n:Nat)(an:List Nat)(a:List (Nat×FP)):Bool:=
 go a&&(List.range n).all (λi=>(a.map (·.1)).contains i)
where
 go:List (Nat×FP)->Bool
  |[]=>true
  |(i,f)::rest=>rest.all (λ(j,g)=>i != j&& !Dy an j i&&(Dy an i j||Of f g))&&go rest
structure IG where
 idx:Nat
 n:Option Nat
 p:Aa
 v:Aa
def OX(an:List Nat)(i:Nat):List IG->IT->IT
 |[],t=>t
 |f::fs,t=>if Dy an f.idx i then OX an i fs t else .load f.n f.p λv=> .same f.v v (OX an i fs t)
def KN(i:Nat)(r:DK)(U:Bq)(fl:List IG):List IG:=
 match r with
 | .load n p (some d)=>match U.at d with
  | .val v=>{idx:=i,n,p,v}::fl
  |_=>fl
 |_=>fl
def OY(ops:List Oper)(i:Nat):Bool:=ops.any λo=>match o.guard with|some (j,_)=>j==i|none=>false
def fW(d:Option Nat)(U:Bq)(K:Bq->IT):IT:=
 match d with
 |none=>K U
 |some d=>match U.at d with
  | .val v=> .A4 v (K (U.set d (.MC true))) (K (U.set d (.MC false)))
  |_=>K U
def Og(C:E7)(fid:FuncId)(ops:List Oper)(an:List Nat):List Nat->List (Nat×FP)->List IG->Bq->(Bq->IT)->IT
 |[],a,_,U,K=>if SC ops.length an a.reverse then K U else .fail
 |i::rest,a,fl,U,K=>
  match ops[i]? with
  |none=> .fail
  |some o=>match Hc ops U o with
   | .Lt true=>match EZ C fid ops U o with
    |none=> .fail
    |some r=>r.Ld C (U.drop r.news) λc=>
     let next:=fW (if OY ops i then o.dst else none) c λb=>Og C fid ops an rest ((i,Rx C ops U o (some r))::a) (KN i r c fl) b K
     if r.OR then OX an i fl next else next
   | .Lt false=>Og C fid ops an rest ((i,Rx C ops U o none)::a) fl (U.put o.dst .skip) K
   |_=> .fail
def Dz(ops:List Oper)(o:Oper):List Nat:=
 o.dst.toList++match o.op with
  | .move (.tmp s)=>(match o.dst with|some d=>if pI ops d then[s] else[]|none=>[])
  | .assign (.tmp s)=>[s]
  | .store _ _ (.tmp s)=>[s]
  | .call c=>(match c.callee with| .builtin .append=>Ii c.args.toList| .value (.func f)=>if P9 f then Ii c.args.toList else[]|_=>[])
  | .makeFunc _ _ captured=>Ii captured.toList
  |_=>[]
def Cv:Code->List Nat
 | .region _ ops _=>ops.toList.flatMap (Dz ops.toList)
 | .seq a b=>Cv a++Cv b
 | .cond _ a b=>Cv a++Cv b
 | .block _ b=>Cv b
 | .loop b=>Cv b
 | .scope b=>Cv b
 |_=>[]
def BP:Code->List Nat
 | .region _ ops _=>ops.toList.flatMap (Et ops.toList)
 | .seq a b=>BP a++BP b
 | .cond (.tmp s) a b=>s::(BP a++BP b)
 | .cond _ a b=>BP a++BP b
 | .block _ b=>BP b
 | .loop b=>BP b
 | .scope b=>BP b
 |_=>[]
def Bq.clear(U:Bq):List Nat->Bq
 |[]=>U
 |s::ss=>Bq.clear (U.set s .undef) ss
def Fm:Code->Option Nat
 | .region id _ _=>some id
 | .seq a b=>(Fm a).orElse λ_=>Fm b
 | .cond _ a b=>(Fm a).orElse λ_=>Fm b
 | .block _ b| .loop b| .scope b=>Fm b
 |_=>none
def SD(U:Bq):List (Nat×Sh)->Option (List Aa)
 |[]=>some []
 |(s,a)::l=>
  let v:=match a,U.at s with
   | .val,x=>x.FM
   | .Bn,.Bn v=>some v
   | .box n ow,.box _ cs LV=>if cs.length=n/\ow.all (LV.contains ·) then some (.agg cs) else none
   |_,_=>none
  match v,SD U l with
  |some v,some vs=>some (v::vs)
  |_,_=>none
def Vh:Dw->Nat
 | .box ver _ _=>ver
 |_=>0
def HQ(vs:List Aa):List (Nat×Sh)->Nat->Bq->(Bq->IT)->IT
 |[],_,U,K=>K U
 |(s,.val)::l,i,U,K=>HQ vs l (i+1) (U.set s (.val (vs.getD i .nilIface))) K
 |(s,.Bn)::l,i,U,K=>HQ vs l (i+1) (U.set s (.Bn (vs.getD i .nilIface))) K
 |(s,.box n ow)::l,i,U,K=> .cells n (vs.getD i .nilIface) λcs=>HQ vs l (i+1) (U.set s (.box (Vh (U.at s)+1) (Sx n cs) ow)) K
def aG(U:Bq)(a:Bq)(l:List (Nat×Sh)):Bool:=
 (List.range U.length).all λs=>match U.at s with
  | .box ver _ _=>(l.map (·.1)).contains s||(match a.at s with| .box E0 _ _=>E0==ver|_=>false)
  | .Ed _ _=>(l.map (·.1)).contains s||(match a.at s with| .Ed _ _=>true|_=>false)
  |_=>true
def finish(b:Bq)(l:List (Nat×Sh))(x:EW)(a:Bq):IT:=
 if aG b a l then match SD a l with
  |some vs=> .ret x vs
  |none=> .fail
 else .fail
def pK(l:List (Nat×Sh))(ws:List Nat)(U:Bq):Bool:=l.all λ(s,_)=>ws.contains s||(match U.at s with| .box _ _ _=>true|_=>false)
def Wn(ops:List Oper):Bool:=ops.zipIdx.all λ(o,i)=>(Oper.Rw o).all λe=>decide (e<i)
def OZ(C:E7)(fid:FuncId)(ops:List Oper)(draw:Bool)(U:Bq)(K:Bq->IT):IT:=
 if draw then(if Wn ops then Og C fid ops (SA ops) (wJ ops) [] [] U K else .fail) else fU C fid ops ops U K
def Wo(key:Nat)(U:Bq)(ws:List Nat)(l:List (Nat×Sh))(t:(EW->Bq->IT)->IT)(K:EW->Bq->IT):IT:=
 let b:=U.clear ws
 if pK l ws U then .EM key (t λx a=>finish b l x a) λx vs=>HQ vs l 0 b λa=>K x a else .fail
def dx(K:EW->Bq->IT):EW->Bq->IT
 | .normal,_=> .fail
 | .exit i,U=>K (.exit i) U
 | .ret,U=>K .ret U
def E1(C:E7)(fid:FuncId):Code->Bq->(EW->Bq->IT)->IT
 | .skip,U,K=>K .normal U
 | .region id ops draw,U,K=>match C.du fid id with
  |none=>OZ C fid ops.toList draw U (K .normal)
  |some l=>Wo (200000+id) U (ops.toList.flatMap (Dz ops.toList)++ops.toList.flatMap (Et ops.toList)) l (λK=>OZ C fid ops.toList draw U (K .normal)) K
 | .seq a b,U,K=>E1 C fid a U λx d=>match x with
  | .normal=>E1 C fid b d K
  | .exit i=>K (.exit i) d
  | .ret=>K .ret d
 | .cond c a b,U,K=>match c,Dg C U c with
  |_,some (.MC true)=>E1 C fid a U K
  |_,some (.MC false)=>E1 C fid b U K
  | .tmp s,some (.val v)=>match C.QR fid s with
   |none=> .A4 v (E1 C fid a (U.set s (.MC true)) K) (E1 C fid b (U.set s (.MC false)) K)
   |some l=>Wo (100000+s) U (s::(Cv a++Cv b++BP a++BP b)) l (λK=> .A4 v (E1 C fid a (U.set s (.MC true)) K) (E1 C fid b (U.set s (.MC false)) K)) K
  |_,_=> .fail
 | .block id b,U,K=>E1 C fid b U λx d=>match x with
  | .normal=>K .normal d
  | .exit i=>if i=id then K .normal d else K (.exit i) d
  | .ret=>K .ret d
 | .loop b,U,K=>
  let l:=C.jn fid ((Fm b).getD 0)
  let ws:=Cv b++BP b
  let f:=U.clear ws
  if pK l ws U then match SD U l with
   |none=> .fail
   |some init=> .loop ((Fm b).getD 0) init (λvs=>HQ vs l 0 f λe=>E1 C fid b e λx d=>finish f l x d) λx vs=>HQ vs l 0 f λd=>dx K x d
  else .fail
 | .exit id,U,K=>K (.exit id) U
 | .ret,U,K=>K .ret U
 | .scope b,U,K=>E1 C fid b U K
 | .label _,U,K=>K .normal U
 |_,_,_=> .fail
def Ff(C:E7)(U:Bq):List ResultVar->List Aa->(List Aa->IT)->IT
 |[],C2,K=>K C2.reverse
 | .tmp t::rs,C2,K=>match(U.at t).FM with
  |some v=>Ff C U rs (v::C2) K
  |none=> .fail
 | .cell a t::rs,C2,K=>match Ei C.P t,EX C U (.tmp a) with
  |some none,some (.ML _ o _ cs _)=>if o<cs.length then Ff C U rs (cs.getD o .nilIface::C2) K else .fail
  |some (some n),some (.ML _ o _ cs _)=>if o+n<=cs.length then Ff C U rs (.agg ((cs.drop o).take n)::C2) K else .fail
  |some n,some (.ptr p)=> .load n p λv=>Ff C U rs (v::C2) K
  |_,_=> .fail
def Nx(U:Bq):List ResultVar->Bool
 |[.tmp t]=>match U.at t with| .Bn _=>true|_=>false
 |_=>false
def fX(C:E7)(U:Bq):List (Nat×Nat)->IT->IT
 |[],t=>t
 |(s,off)::l,t=>match(U.at s).FM with
  |some p=> .HA off p (fX C U l t)
  |none=> .fail
def MN:List Aa->List Aa->(List Aa->IT)->IT
 |[],C2,K=>K C2.reverse
 |v::vs,C2,K=> .Sn v λv=>MN vs (v::C2) K
def QU:List Aa->IT
 |[v]=> .ret .ret [v]
 |vs=> .ret .ret [.tuple vs]
def Yb(C:E7)(fid:FuncId)(fn:Func)(U:Bq):IT:=
 if C.HP fid&& !Nx U fn.results.toList then .fail
 else fX C U (C.pH fid) (Ff C U fn.results.toList [] λvs=>if C.pG fid then MN vs [] QU else QU vs)
def pL(C:E7)(fid:FuncId)(fn:Func)(args:List Aa):IT:=
 match fn.body with
 |none=> .fail
 |some c=>E1 C fid c (args.map .val++List.replicate (fn.ntmps-args.length) .undef) λx U=>match x with
  | .normal=>Yb C fid fn U
  | .exit _=> .fail
  | .ret=>Yb C fid fn U
def xb(C:E7)(fid:FuncId)(args:List Aa):IT:=
 match C.P.funcs[DE fid]? with
 |some fn=>if fn.name== "runtime.NumGoroutine" then .fail else pL C fid fn args
 |none=> .fail
def BK(C:E7)(fid:FuncId)(args:List Aa):IT:=
 match C.jo fid with
 |some p=>p args
 |none=>xb C fid args
abbrev g(l:List Aa)(i:Nat):Aa:=l.getD i .nilIface
abbrev I(n:Int):Aa:= .int .i64 n
abbrev S(s:Aq):Aa:= .str s
abbrev tt:Aa:= .bool true
abbrev ff:Aa:= .bool false
abbrev E7.run(C:E7):Nat->IT->Ag->Option IF:=IT.run (BK C)
end Go.Am
end
end
section
namespace Go.Am
def IT.IL{fn:FuncId->List Aa->IT}{rec xc:IT->Ag->Option IF}(hr:∀t h r,rec t h=some r->xc t h=some r):
  ∀(t:IT) (h:Ag) (r:IF),IT.step fn rec t h=some r->IT.step fn xc t h=some r:=by
 intro t;induction t with
 |ret x vs=>intro h r d;simpa[IT.step] using d
 |fail=>intro h r d;simp[IT.step] at d
 |op o args k ih=>
  intro h r d;simp only[IT.step] at d⊢;split at d;.exact ih _ _ _ d
  .cases d
 |cells n v k ih=>
  intro h r d;simp only[IT.step] at d⊢;split at d;.rename_i hc;rw[Ad hc];exact ih _ _ _ d
  .cases d
 |A4 c t e i q=>
  intro h r d;simp only[IT.step] at d⊢;split at d;.exact i _ _ d
  .exact q _ _ d
  .cases d
 |load n p k ih=>
  intro h r d;simp only[IT.step] at d⊢;split at d;.exact ih _ _ _ d
  .cases d
 |store n p v k ih=>
  intro h r d;simp only[IT.step] at d⊢;split at d;.exact ih _ _ d
  .cases d
 |alloc n v k ih=>
  intro h r d;simp only[IT.step] at d⊢;split at d;.exact ih _ _ _ d
  .cases d
 |call f args k ih=>
  intro h r d;simp only[IT.step] at d⊢;split at d;.rename_i h1;rw[hr _ _ _ h1];exact ih _ _ _ d
  .cases d
 |EK g args k ih=>
  intro h r d;simp only[IT.step] at d⊢;split at d
  .rename_i f a ht;split at d;.rename_i h1;simp only[hr _ _ _ h1];exact ih _ _ _ d
   .cases d
  .cases d
 |Ck f args k ih=>
  intro h r d;simp only[IT.step] at d⊢;split at d
  .rename_i HB;rw[Ad HB];split at d
   .rename_i h1;rw[hr _ _ _ h1];split at d;.rename_i dy;simp only[dy,BB];exact ih _ _ _ d
    .cases d
   .cases d
  .cases d
 |loop key init body k l j=>
  intro h r d;simp only[IT.step] at d⊢;split at d;.rename_i h1;rw[l _ _ _ h1];exact hr _ _ _ d
  .rename_i x vs h1 hne hx;rw[l _ _ _ hx];cases x<;>first|exact j _ _ _ _ d|exact absurd rfl hne
  .cases d
 |EM key t k i j=>
  intro h r d;simp only[IT.step] at d⊢;split at d;.rename_i h1;rw[i _ _ h1];exact j _ _ _ _ d
  .cases d
 |same a b k ih=>
  intro h r d;simp only[IT.step] at d⊢;split at d;.rename_i hc;rw[Ad hc];exact ih _ _ d
  .cases d
 |NO k ih=>intro h r d;simp only[IT.step] at d⊢;exact ih _ _ _ d
 |Ja m key v k ih=>
  intro h r d;simp only[IT.step] at d⊢;split at d;.exact ih _ _ d
  .cases d
 |Ls z ok m key k ih=>
  intro h r d;simp only[IT.step] at d⊢;split at d;.exact ih _ _ _ d
  .cases d
 |make size bytes zero len cap k ih=>
  intro h r d;simp only[IT.step] at d⊢;split at d;.exact ih _ _ _ d
  .cases d
 |IE size bytes s x k ih=>
  intro h r d;simp only[IT.step] at d⊢;split at d;.exact ih _ _ _ d
  .cases d
 |EE s k ih=>
  intro h r d;simp only[IT.step] at d⊢;split at d;.exact ih _ _ _ d
  .cases d
 |Sn v k ih=>
  intro h r d;simp only[IT.step] at d⊢;split at d;.exact ih _ _ _ d
  .cases d
 |HA off p k ih=>
  intro h r d;simp only[IT.step] at d⊢;split at d;.exact ih _ _ d
  .cases d
 |FG size bytes s x k ih=>
  intro h r d;simp only[IT.step] at d⊢;split at d;.exact ih _ _ _ d
  .cases d
 |Fk size bytes s x k ih=>
  intro h r d;simp only[IT.step] at d⊢;split at d;.exact ih _ _ _ d
  .cases d
 |mem o args k ih=>
  intro h r d;simp only[IT.step] at d⊢;split at d;.exact ih _ _ _ d
  .cases d
 |pD f args k ih=>
  intro h r d;simp only[IT.step] at d⊢;split at d
  .rename_i h1;rw[hr _ _ _ h1];split at d;.rename_i dy;simp only[dy,BB];exact ih _ _ _ d
   .cases d
  .cases d
def IT.pM{fn:FuncId->List Aa->IT}:∀(n:Nat) (t:IT) (h:Ag) (r:IF),IT.run fn n t h=some r->IT.run fn (n+1) t h=some r:=by
 intro n;induction n with
 |zero=>intro t h r a;simp[IT.run] at a
 |succ n ih=>intro t h r a;exact IT.IL (λt h r=>ih t h r) t h r a
def IT.Hp{fn:FuncId->List Aa->IT}{n m:Nat}(hnm:n<=m){t:IT}{h:Ag}{r:IF}(a:IT.run fn n t h=some r):IT.run fn m t h=some r:=by
 induction hnm with
 |refl=>exact a
 |step _ ih=>exact IT.pM _ _ _ _ ih
abbrev IA:=EW->List Aa->Ag->Prop
def W(C:E7)(t:IT)(Q:IA)(h:Ag):Prop:=∃n x vs h',C.run n t h=some (x,vs,h')/\Q x vs h'
section
variable{C:E7}{Q:IA}{h:Ag}
def W.mono{t:IT}{Q':IA}(hw:W C t Q h)(hq:∀x vs h',Q x vs h'->Q' x vs h'):W C t Q' h:=
 let⟨n,x,vs,h',hr,q⟩:=hw;⟨n,x,vs,h',hr,hq _ _ _ q⟩
def xd{x:EW}{vs:List Aa}(hq:Q x vs h):W C (.ret x vs) Q h:=⟨1,x,vs,h,rfl,hq⟩
def Cw{t:IT}(a:∃n x vs h',IT.step (BK C) (C.run n) t h=some (x,vs,h')/\Q x vs h'):W C t Q h:=
 let⟨n,x,vs,h',hr,q⟩:=a;⟨n+1,x,vs,h',hr,q⟩
def W.succ{t:IT}(a:W C t Q h):∃n x vs h',IT.step (BK C) (C.run n) t h=some (x,vs,h')/\Q x vs h':=by
 obtain⟨n,x,vs,h',hr,q⟩:=a;cases n with
 |zero=>simp[E7.run,IT.run] at hr
 |succ n=>exact⟨n,x,vs,h',hr,q⟩
def Ż{o:Ur}{args:List Aa}{k:Aa->IT}{v:Aa}(hv:Ax o args=some v)(hw:W C (k v) Q h):W C (.op o args k) Q h:=by obtain⟨n,x,vs,h',hr,q⟩:=hw.succ;exact Cw ⟨n,x,vs,h',by simp only[IT.step,hv];exact hr,q⟩
def wK{n:Nat}{v:Aa}{k:List Aa->IT}(hv:v.cells.length=n)(hw:W C (k v.cells) Q h):W C (.cells n v k) Q h:=by obtain⟨m,x,vs,h',hr,q⟩:=hw.succ;exact Cw ⟨m,x,vs,h',by simp only[IT.step,hv,BB];exact hr,q⟩
def dz{b:Bool}{t e:IT}(ht:b=true->W C t Q h)(he:b=false->W C e Q h):W C (.A4 (.bool b) t e) Q h:=by
 cases b with
 |true=>obtain⟨m,x,vs,h',hr,q⟩:=(ht rfl).succ;exact Cw ⟨m,x,vs,h',by simp only[IT.step];exact hr,q⟩
 |false=>obtain⟨m,x,vs,h',hr,q⟩:=(he rfl).succ;exact Cw ⟨m,x,vs,h',by simp only[IT.step];exact hr,q⟩
def jt{n:Option Nat}{p v:Aa}{k:Aa->IT}(hv:BE h n p=some v)(hw:W C (k v) Q h):W C (.load n p k) Q h:=by obtain⟨m,x,vs,h',hr,q⟩:=hw.succ;exact Cw ⟨m,x,vs,h',by simp only[IT.step,hv];exact hr,q⟩
def wL{n:Nat}{p v:Aa}{k:IT}{h1:Ag}(hv:Cx h n p v=some h1)(hw:W C k Q h1):W C (.store n p v k) Q h:=by obtain⟨m,x,vs,h',hr,q⟩:=hw.succ;exact Cw ⟨m,x,vs,h',by simp only[IT.step,hv];exact hr,q⟩
def wM{n:Nat}{v:Aa}{k:Aa->IT}(hv:v.cells.length=n)(hw:W C (k (.ptr (some (h.length,0)))) Q (h++[.cells v.cells])):W C (.alloc n v k) Q h:=by obtain⟨m,x,vs,h',hr,q⟩:=hw.succ;exact Cw ⟨m,x,vs,h',by simp only[IT.step,Wl,hv,BB];exact hr,q⟩
def ju{a b:Aa}{k:IT}(hv:Aa.beq a b=true)(hw:W C k Q h):W C (.same a b k) Q h:=by obtain⟨m,x,vs,h',hr,q⟩:=hw.succ;exact Cw ⟨m,x,vs,h',by simp only[IT.step,hv,BB];exact hr,q⟩
def jv{k:Aa->IT}(hw:W C (k (.map (some h.length))) Q (h++[.map []])):W C (.NO k) Q h:=by obtain⟨m,x,vs,h',hr,q⟩:=hw.succ;exact Cw ⟨m,x,vs,h',by simp only[IT.step];exact hr,q⟩
def jw{m key v:Aa}{k:IT}{h1:Ag}(hv:QP h m key v=some h1)(hw:W C k Q h1):W C (.Ja m key v k) Q h:=by obtain⟨n,x,vs,h',hr,q⟩:=hw.succ;exact Cw ⟨n,x,vs,h',by simp only[IT.step,hv];exact hr,q⟩
def jx{z:Aa}{ok:Bool}{m key v:Aa}{k:Aa->IT}(hv:QQ h z ok m key=some v)(hw:W C (k v) Q h):W C (.Ls z ok m key k) Q h:=by obtain⟨n,x,vs,h',hr,q⟩:=hw.succ;exact Cw ⟨n,x,vs,h',by simp only[IT.step,hv];exact hr,q⟩
def wN{size bytes:Nat}{s x v:Aa}{k:Aa->IT}{h1:Ag}(hv:K9 h size bytes s x=some (h1,v))(hw:W C (k v) Q h1):W C (.IE size bytes s x k) Q h:=by obtain⟨n,x,vs,h',hr,q⟩:=hw.succ;exact Cw ⟨n,x,vs,h',by simp only[IT.step,hv];exact hr,q⟩
def aH{s v:Aa}{k:Aa->IT}{h1:Ag}(hv:HW h s=some (h1,v))(hw:W C (k v) Q h1):W C (.EE s k) Q h:=by obtain⟨n,x,vs,h',hr,q⟩:=hw.succ;exact Cw ⟨n,x,vs,h',by simp only[IT.step,hv];exact hr,q⟩
def xe{u v:Aa}{k:Aa->IT}{h1:Ag}(hv:La h u=some (h1,v))(hw:W C (k v) Q h1):W C (.Sn u k) Q h:=by obtain⟨n,x,vs,h',hr,q⟩:=hw.succ;exact Cw ⟨n,x,vs,h',by simp only[IT.step,hv];exact hr,q⟩
def wO{off:Nat}{p:Aa}{k:IT}{h1:Ag}(hv:Kb h off p=some h1)(hw:W C k Q h1):W C (.HA off p k) Q h:=by obtain⟨n,x,vs,h',hr,q⟩:=hw.succ;exact Cw ⟨n,x,vs,h',by simp only[IT.step,hv];exact hr,q⟩
def jy{size bytes:Nat}{s x v:Aa}{k:Aa->IT}{h1:Ag}(hv:hgrow h size bytes s x=some (h1,v))(hw:W C (k v) Q h1):W C (.FG size bytes s x k) Q h:=by obtain⟨n,x,vs,h',hr,q⟩:=hw.succ;exact Cw ⟨n,x,vs,h',by simp only[IT.step,hv];exact hr,q⟩
def kO{size bytes:Nat}{s x v:Aa}{k:Aa->IT}(hv:NX h size bytes s x=some v)(hw:W C (k v) Q h):W C (.Fk size bytes s x k) Q h:=by obtain⟨n,x,vs,h',hr,q⟩:=hw.succ;exact Cw ⟨n,x,vs,h',by simp only[IT.step,hv];exact hr,q⟩
def xf{o:pB}{args:List Aa}{v:Aa}{k:Aa->IT}{h1:Ag}(hv:D4 o h args=some (h1,v))(hw:W C (k v) Q h1):W C (.mem o args k) Q h:=by obtain⟨n,x,vs,h',hr,q⟩:=hw.succ;exact Cw ⟨n,x,vs,h',by simp only[IT.step,hv];exact hr,q⟩
def Ev(C:E7)(f:FuncId)(args:List Aa)(h:Ag)(R:Aa->Ag->Prop):Prop:=
 W C (BK C f args) (λx vs h'=>x= .ret/\∃r,vs=[r]/\R r h') h
def Ev.mono{f:FuncId}{args:List Aa}{R R':Aa->Ag->Prop}(hw:Ev C f args h R)(hr:∀r h',R r h'->R' r h'):Ev C f args h R':=
 W.mono hw λ_ _ _ ⟨hx,r,hv,hR⟩=>⟨hx,r,hv,hr _ _ hR⟩
def pO{f:FuncId}{args:List Aa}{k:Aa->IT}(hc:Ev C f args h λr h1=>W C (k r) Q h1):W C (.call f args k) Q h:=by obtain⟨n,x,vs,h1,hr,hx,r,hv,m,x',Gu,h',FH,q⟩:=hc;subst hx;subst hv;refine Cw ⟨max n m,x',Gu,h',?_,q⟩;have d_:=IT.Hp (HH n m) hr;have h2:=IT.Hp (A5 (GW n m) (D7 _)) FH;simp only[IT.step];simp only[E7.run] at*;rw[d_];exact h2
def wQ{f:FuncId}{args:List Aa}{k:Aa->IT}(ha:args.all Aa.KE=true)(hc:Ev C f args [] λr _=>r.KE=true/\W C (k r) Q h):W C (.Ck f args k) Q h:=by obtain⟨n,x,vs,h1,hr,hx,r,hv,HB,m,x',Gu,h',FH,q⟩:=hc;subst hx;subst hv;refine Cw ⟨max n m,x',Gu,h',?_,q⟩;have d_:=IT.Hp (HH n m) hr;have h2:=IT.Hp (A5 (GW n m) (D7 _)) FH;simp only[IT.step,ha,BB];simp only[E7.run] at*;rw[d_];simp only[HB,BB];exact h2
def jz{key:Nat}{t:IT}{k:EW->List Aa->IT}(hw:W C t (λx vs h1=>W C (k x vs) Q h1) h):W C (.EM key t k) Q h:=by obtain⟨n,x,vs,h1,hr,uw⟩:=hw.succ;obtain⟨m,x',Gu,h',FH,q⟩:=uw.succ;refine Cw ⟨max n m,x',Gu,h',?_,q⟩;have e1:=IT.IL (λt h r=>IT.Hp (fn:=BK C) (HH n m)) _ _ _ hr;have a:=IT.IL (λt h r=>IT.Hp (fn:=BK C) (GW n m)) _ _ _ FH;simp only[IT.step];simp only[E7.run] at*;rw[e1];exact a
end
end Go.Am
end
