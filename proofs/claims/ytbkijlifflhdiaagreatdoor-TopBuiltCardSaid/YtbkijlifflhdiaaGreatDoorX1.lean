/- Lemmas -/
import GoSem.Step
set_option linter.all false
def Ac:=@if_neg
def Ad:=@if_pos
def Ae:=@List.getElem?_eq_some_iff
def Af:=@Nat.le_refl
def Ai:=@List.getElem?_eq_getElem
def Ak:=@List.mem_append
def Al:=@List.getElem?_append_left
def An:=@List.getElem?_set_ne
def Ap:=@List.length_append
def As:=@List.length_map
def Au:=@List.length_take
def Ax:=@List.getD_eq_getElem?_getD
def Az:=@List.mem_cons
def AA:=@List.drop_eq_getElem_cons
def AB:=@List.append_assoc
def AD:=@List.take_succ_eq_append_getElem
def AF:=@List.Sublist.refl
def AH:=@List.getElem?_set_self
def AI:=@false_implies
def AJ:=@List.getElem_mem
def AK:=@Array.getElem?_eq_some_iff
def AL:=@not_true_eq_false
def AM:=@not_false_eq_true
def AN:=@List.mem_of_mem_take
def AP:=@true_implies
def AR:=@List.take_of_length_le
def AU:=@List.length_cons
def AV:=@List.length_drop
def AZ:=@List.mem_map
def A6:=@List.mem_of_mem_drop
def A7:=@Nat.zero_le
def Bb:=@decide_eq_false
def Bc:=@Nat.add_zero
def Bd:=@List.drop_of_length_le
def Bf:=@decide_eq_true
def Bg:=@Nat.lt_or_ge
def Bi:=@List.map_cons
def Bm:=@Nat.le_trans
def Bn:=@Int.toNat_natCast
def Bp:=@List.getElem?_append_right
def Bs:=@Nat.add_mul
def Bt:=@Bool.and_eq_true
def Bv:=@List.length_set
def By:=@List.mem_append_right
def BB:=@Option.some.injEq
def BC:=@Nat.zero_add
def BF:=@List.nodup_append
def BG:=@List.nil_append
def BH:=@if_true
def BK:=@List.length_nil
def BL:=@List.nodup_cons
def BM:=@List.take_append_drop
def BN:=@Decidable.byContradiction
def BP:=@List.size_toArray
def BQ:=@List.append_nil
def BR:=@List.length_singleton
def BT:=@eq_self
def BU:=@Option.map_some
def BV:=@List.map_append
def B0:=@Array.length_toList
def B1:=@List.mem_filterMap
def B3:=@List.getElem?_take
def B5:=@Option.bind_some
def B6:=@List.set_append_right
def B7:=@List.take_length
def Ca:=@congrArg
def Cb:=@List.mem_of_getElem?
def Cc:=@List.mem_append_left
def Cd:=@List.set_eq_take_append_cons_drop
def Ce:=@Nat.min_eq_left
def Cm:=@List.getElem?_drop
def Cn:=@List.getElem?_map
def Cq:=@List.getElem?_of_mem
def Cu:=@Array.getElem?_eq_getElem
def Cy:=@List.flatten_cons
def CA:=@List.getElem?_take_of_lt
def CB:=@List.eq_nil_of_length_eq_zero
def CC:=@ne_eq
def CE:=@Nat.succ_pos
def CG:=@List.mem_filter
def CP:=@List.cons_append
def CU:=@List.mem_or_eq_of_mem_set
def CY:=@decide_false
def CZ:=@eq_true
def C3:=@List.getElem?_eq_none
def C5:=@List.getElem_map
def C8:=@Nat.lt_irrefl
def C9:=@decide_eq_true_eq
def Di:=@List.take_append_of_le_length
def Dk:=@Bool.false_eq_true
def Dl:=@List.mem_singleton
def DB:=@List.length_pos_iff
def DL:=@List.drop_drop
def DM:=@Nat.mul_le_mul_right
def DN:=@Bool.not_false
def DO:=@decide_true
def DP:=@List.filter_append
def DW:=@List.map_nil
def DX:=@Ne.symm
def DY:=@Nat.sub_self
def DZ:=@decide_eq_decide
def Ef:=@Nat.one_mul
def Eh:=@List.filterMap_append
def Es:=@List.take_left
def Ew:=@Option.some.inj
def EG:=@List.all_eq_true
def EH:=@List.reverse_reverse
def ET:=@List.take_sublist
def EX:=@Nat.le_succ
def EY:=@Nat.zero_lt_one
def E9:=@if_false
def Fa:=@List.length_replicate
def Fg:=@Nat.le_add_right
def Fo:=@List.map_set
def FI:=@of_decide_eq_true
def FO:=@List.cons.injEq
def Gb:=@Array.toList_append
def Gc:=@List.findIdx?_eq_some_iff_findIdx_eq
def Gl:=@Array.getD_eq_getD_getElem?
def Gn:=@Bool.not_true
def Gp:=@Nat.mul_one
def Gr:=@List.filter_cons
def GC:=@Array.ext'
def GD:=@List.take_take
def GN:=@List.extract_eq_take_drop
def GU:=@bne_self_eq_false
def Hi:=@List.reverse_append
def Hj:=@List.filterMap_cons
def Hs:=@Nat.le_max_right
def Ht:=@Array.eq_empty_of_size_eq_zero
def Hu:=@Nat.le_mul_of_pos_right
def Hv:=@List.drop_length
def HU:=@List.reverse_singleton
def H9:=@Nat.le_max_left
def Ia:=@List.take_left'
def Ib:=@List.dropLast_concat_getLast
def Ie:=@List.map_take
def Ip:=@List.singleton_append
def Iq:=@List.set_getElem_self
def IE:=@Array.size_append
def IF:=@List.reverse_cons
def I4:=@Array.replicate_succ
def I5:=@Array.replicate_zero
def I6:=@Int.le_refl
def Jg:=@List.pairwise_iff_getElem
def Jh:=@List.getElem_append_right
def Jt:=@List.toList_toArray
def Ju:=@List.flatten_append
def Jv:=@List.replicate_succ
def Jw:=@Int.toNat_of_nonneg
def Jy:=@List.append_toArray
def J1:=@and_true
def J2:=@List.getElem_append_left
def J4:=@List.drop_left'
def Ke:=@Nat.lt_of_lt_of_le
def Kf:=@Nat.eq_zero_or_pos
def Kg:=@List.find?_eq_none
def Kk:=@List.getElem?_cons_zero
def Kl:=@List.length_eq_zero_iff
def KW:=@Nat.add_comm
def KX:=@List.drop_zero
def KY:=@Nat.le_of_eq
def KZ:=@Nat.zero_mul
def K0:=@List.nodup_nil
def K4:=@List.push_toArray
def Lv:=@Array.getElem?_modify
def LP:=@Option.getD_some
def LQ:=@Array.toList_map
def LR:=@Int.natCast_zero
def LU:=@Prod.mk.injEq
def LV:=@List.map_drop
def Mw:=@Array.toList_extract
def Mx:=@true_and
def M8:=@List.find?_cons
def Nn:=@Nat.ne_of_lt
def N8:=@List.take_zero
def N9:=@Array.ext_getElem?
def Oa:=@Nat.add_sub_cancel
def Ob:=@Int.fdiv_eq_ediv_of_nonneg
def Oc:=@List.nodup_iff_pairwise_ne
def OJ:=@Option.filter_eq_some_iff
def OK:=@List.mem_of_find?_eq_some
def OL:=@List.getLast?_eq_getElem?
def O0:=@List.ext_getElem?
def O1:=@List.find?_append
def O2:=@List.getElem_take
def Py:=@Nat.add_assoc
def Pz:=@not_or
def PC:=@Bool.false_or
def PD:=@Bool.bne_true
def QM:=@List.drop_append
def QN:=@List.getElem?_cons_succ
def QP:=@List.reverse_nil
def QQ:=@Nat.lt_succ_self
def QR:=@Option.bind_eq_some_iff
def QS:=@Nat.add_sub_cancel_left
def QT:=@Int.eq_ofNat_of_zero_le
def QU:=@List.any_eq_true
def QV:=@List.map_reverse
def RE:=@List.sublist_cons_self
def RF:=@Nat.le_of_lt
def RG:=@Int.not_lt
def So:=@Bool.or_eq_true
def Sp:=@List.find?_some
def Vh:=@List.mem_cons_of_mem
def VN:=@List.take_succ_cons
def VO:=@List.take_set_of_le
def VP:=@Array.getElem?_push
def VQ:=@List.map_congr_left
def VR:=@List.length_reverse
def VS:=@List.filter_eq_self
def VT:=@List.mem_map_of_mem
def W8:=@List.all_cons
def W9:=@Int.lt_irrefl
def bI:=@dif_pos
def bJ:=@Nat.lt_trichotomy
def bK:=@List.getElem_drop
def bX:=@Array.getElem?_setIfInBounds_ne
def bY:=@List.takeWhile_append_dropWhile
def gX:=@List.zipIdx_cons
def gY:=@List.take_append
def gZ:=@List.eq_nil_iff_forall_not_mem
def hC:=@List.mem_flatMap
def hZ:=@List.suffix_refl
def pV:=@List.foldl_cons
def pW:=@Bool.eq_iff_iff
def pX:=@List.any_append
def xS:=@beq_iff_eq
def xT:=@and_self
def jk:=@List.take_add
def jl:=@List.eq_of_mem_replicate
def jm:=@Bool.or_false
def ob:=@List.filter_cons_of_pos
def y_:=@List.length_eq_one_iff
def za:=@dif_neg
def zb:=@Bool.true_or
def zc:=@Option.map_eq_some_iff
def zd:=@eq_comm
def ze:=@List.set_set
def zf:=@List.getElem_cons_zero
def M_:=@List.contains_iff_mem
def N_:=@Array.getElem?_toList
def O_:=@List.length_filter_le
def aAB:=@List.getElem?_append
def aAC:=@List.range_eq_range'
def aAD:=@List.pairwise_append
def aAE:=@List.mem_of_getLast?
def aBq:=@Nat.add_sub_cancel'
def aBr:=@List.drop_set_of_lt
def aBs:=@Array.toList_zipIdx
def aBt:=@List.getD_cons_succ
def aBu:=@List.getElem_of_mem
def aEN:=@List.zip_cons_cons
def aEO:=@Array.foldl_toList
def aEP:=@List.pairwise_cons
def aEQ:=@Option.isSome_some
def aER:=@List.findIdx?_cons
def aES:=@Option.toList_some
def aET:=@List.map_singleton
def aGJ:=@Bool.not_eq_true'
def aGK:=@List.getElem?_set
def aGL:=@List.pairwise_map
def aGN:=@List.drop_sublist
def aGO:=@List.getLast?_nil
abbrev aK7:List UInt8:=[97,116,116,114,105,98,117,116,101,78,97,109,101,32,97,116,116,114,105,98,117,116,101,84,121,112,101,32,98,97,115,101,70,114,101,113,117,101,110,99,121,32,98,97,115,101,80,114,111,102,105,108,101,32,99,97,108,99,77,111,100,101,32,99,108,105,112,80,97,116,104,85,110,105,116,115,32,100,105,102,102,117,115,101,67,111,110,115,116,97,110,116,32,101,100,103,101,77,111,100,101,32,102,105,108,116,101,114,85,110,105,116,115,32,103,108,121,112,104,82,101,102,32,103,114,97,100,105,101,110,116,84,114,97,110,115,102,111,114,109,32,103,114,97,100,105,101,110,116,85,110,105,116,115,32,107,101,114,110,101,108,77,97,116,114,105,120,32,107,101,114,110,101,108,85,110,105,116,76,101,110,103,116,104,32,107,101,121,80,111,105,110,116,115,32,107,101,121,83,112,108,105,110,101,115,32,107,101,121,84,105,109,101,115,32,108,101,110,103,116,104,65,100,106,117,115,116,32,108,105,109,105,116,105,110,103,67,111,110,101,65,110,103,108,101,32,109,97,114,107,101,114,72,101,105,103,104,116,32,109,97,114,107,101,114,85,110,105,116,115,32,109,97,114,107,101,114,87,105,100,116,104,32,109,97,115,107,67,111,110,116,101,110,116,85,110,105,116,115,32,109,97,115,107,85,110,105,116,115,32,110,117,109,79,99,116,97,118,101,115,32,112,97,116,104,76,101,110,103,116,104,32,112,97,116,116,101,114,110,67,111,110,116,101,110,116,85,110,105,116,115,32,112,97,116,116,101,114,110,84,114,97,110,115,102,111,114,109,32,112,97,116,116,101,114,110,85,110,105,116,115,32,112,111,105,110,116,115,65,116,88,32,112,111,105,110,116,115,65,116,89,32,112,111,105,110,116,115,65,116,90,32,112,114,101,115,101,114,118,101,65,108,112,104,97,32,112,114,101,115,101,114,118,101,65,115,112,101,99,116,82,97,116,105,111,32,112,114,105,109,105,116,105,118,101,85,110,105,116,115,32,114,101,102,88,32,114,101,102,89,32,114,101,112,101,97,116,67,111,117,110,116,32,114,101,112,101,97,116,68,117,114,32,114,101,113,117,105,114,101,100,69,120,116,101,110,115,105,111,110,115,32,114,101,113,117,105,114,101,100,70,101,97,116,117,114,101,115,32,115,112,101,99,117,108,97,114,67,111,110,115,116,97,110,116,32,115,112,101,99,117,108,97,114,69,120,112,111,110,101,110,116,32,115,112,114,101,97,100,77,101,116,104,111,100,32,115,116,97,114,116,79,102,102,115,101,116,32,115,116,100,68,101,118,105,97,116,105,111,110,32,115,116,105,116,99,104,84,105,108,101,115,32,115,117,114,102,97,99,101,83,99,97,108,101,32,115,121,115,116,101,109,76,97,110,103,117,97,103,101,32,116,97,98,108,101,86,97,108,117,101,115,32,116,97,114,103,101,116,88,32,116,97,114,103,101,116,89,32,116,101,120,116,76,101,110,103,116,104,32,118,105,101,119,66,111,120,32,118,105,101,119,84,97,114,103,101,116,32,120,67,104,97,110,110,101,108,83,101,108,101,99,116,111,114,32,121,67,104,97,110,110,101,108,83,101,108,101,99,116,111,114,32,122,111,111,109,65,110,100,80,97,110]
abbrev aK8:List UInt8:=[97,108,116,71,108,121,112,104,32,97,108,116,71,108,121,112,104,68,101,102,32,97,108,116,71,108,121,112,104,73,116,101,109,32,97,110,105,109,97,116,101,67,111,108,111,114,32,97,110,105,109,97,116,101,77,111,116,105,111,110,32,97,110,105,109,97,116,101,84,114,97,110,115,102,111,114,109,32,99,108,105,112,80,97,116,104,32,102,101,66,108,101,110,100,32,102,101,67,111,108,111,114,77,97,116,114,105,120,32,102,101,67,111,109,112,111,110,101,110,116,84,114,97,110,115,102,101,114,32,102,101,67,111,109,112,111,115,105,116,101,32,102,101,67,111,110,118,111,108,118,101,77,97,116,114,105,120,32,102,101,68,105,102,102,117,115,101,76,105,103,104,116,105,110,103,32,102,101,68,105,115,112,108,97,99,101,109,101,110,116,77,97,112,32,102,101,68,105,115,116,97,110,116,76,105,103,104,116,32,102,101,68,114,111,112,83,104,97,100,111,119,32,102,101,70,108,111,111,100,32,102,101,70,117,110,99,65,32,102,101,70,117,110,99,66,32,102,101,70,117,110,99,71,32,102,101,70,117,110,99,82,32,102,101,71,97,117,115,115,105,97,110,66,108,117,114,32,102,101,73,109,97,103,101,32,102,101,77,101,114,103,101,32,102,101,77,101,114,103,101,78,111,100,101,32,102,101,77,111,114,112,104,111,108,111,103,121,32,102,101,79,102,102,115,101,116,32,102,101,80,111,105,110,116,76,105,103,104,116,32,102,101,83,112,101,99,117,108,97,114,76,105,103,104,116,105,110,103,32,102,101,83,112,111,116,76,105,103,104,116,32,102,101,84,105,108,101,32,102,101,84,117,114,98,117,108,101,110,99,101,32,102,111,114,101,105,103,110,79,98,106,101,99,116,32,103,108,121,112,104,82,101,102,32,108,105,110,101,97,114,71,114,97,100,105,101,110,116,32,114,97,100,105,97,108,71,114,97,100,105,101,110,116,32,116,101,120,116,80,97,116,104]
abbrev aK9:List UInt8:=[116,101,109,112,108,97,116,101]
abbrev aLa:List UInt8:=[97,110,110,111,116,97,116,105,111,110,45,120,109,108]
abbrev aLb:List UInt8:=[116,97,98,108,101]
abbrev aLc:List UInt8:=[102,111,114,101,105,103,110,79,98,106,101,99,116]
abbrev aLd:List UInt8:=[99,97,112,116,105,111,110]
abbrev aLe:List UInt8:=[104,116,109,108]
abbrev aLf:List UInt8:=[98,117,116,116,111,110]
abbrev aLg:List UInt8:=[111,112,116,103,114,111,117,112]
abbrev aLh:List UInt8:=[97,112,112,108,105,99,97,116,105,111,110,47,120,104,116,109,108,43,120,109,108]
abbrev aLi:List UInt8:=[120,108,105,110,107,58,97,114,99,114,111,108,101]
abbrev aLj:List UInt8:=[120,108,105,110,107,58,97,99,116,117,97,116,101]
abbrev aLk:List UInt8:=[120,108,105,110,107,58,116,105,116,108,101]
abbrev aLl:List UInt8:=[120,109,108,110,115,58,120,108,105,110,107]
abbrev aLm:List UInt8:=[99,111,108,103,114,111,117,112]
abbrev aLn:List UInt8:=[116,102,111,111,116]
abbrev aLo:List UInt8:=[116,105,116,108,101]
abbrev aLp:List UInt8:=[120,109,108,110,115]
abbrev aLq:List UInt8:=[111,112,116,105,111,110]
abbrev aLr:List UInt8:=[116,98,111,100,121]
abbrev aLs:List UInt8:=[116,104,101,97,100]
abbrev aLt:List UInt8:=[120,108,105,110,107,58,104,114,101,102]
abbrev aLu:List UInt8:=[120,108,105,110,107,58,114,111,108,101]
abbrev aLv:List UInt8:=[120,108,105,110,107,58,115,104,111,119]
abbrev aLw:List UInt8:=[120,108,105,110,107,58,116,121,112,101]
abbrev aLx:List UInt8:=[100,101,102,105,110,105,116,105,111,110,117,114,108]
abbrev aLy:List UInt8:=[120,109,108,58,115,112,97,99,101]
abbrev aLz:List UInt8:=[100,101,102,105,110,105,116,105,111,110,85,82,76]
abbrev aLA:List UInt8:=[120,109,108,58,108,97,110,103]
abbrev aLB:List UInt8:=[109,97,114,113,117,101,101]
abbrev aLC:List UInt8:=[97,114,99,114,111,108,101]
abbrev aLD:List UInt8:=[97,99,116,117,97,116,101]
abbrev aLE:List UInt8:=[97,112,112,108,101,116]
abbrev aLF:List UInt8:=[116,101,120,116,47,104,116,109,108]
abbrev aLG:List UInt8:=[115,101,108,101,99,116]
abbrev aLH:List UInt8:=[111,98,106,101,99,116]
abbrev aLI:List UInt8:=[100,101,115,99]
abbrev aLJ:List UInt8:=[101,110,99,111,100,105,110,103]
abbrev aLK:List UInt8:=[102,114,97,109,101,115,101,116]
abbrev aLL:List UInt8:=[120,108,105,110,107]
abbrev aLM:List UInt8:=[115,112,97,99,101]
abbrev aLN:List UInt8:=[104,114,101,102]
abbrev aLO:List UInt8:=[114,111,108,101]
abbrev aLP:List UInt8:=[115,104,111,119]
abbrev aLQ:List UInt8:=[116,121,112,101]
theorem Ab{p:Prop}(h:p:=by omega):p:=h
theorem Aw{p:Prop}(h:p:=by simp):p:=h
theorem Bj{p:Prop}(h:p:=by decide):p:=h
theorem fY{p:Prop}(h:p:=by decide +kernel):p:=h
theorem Hc{p:Prop}(h:p:=by simp only; omega):p:=h
theorem ER{p:Prop}(h:p:=by simp; omega):p:=h
theorem Hz{p:Prop}(h:p:=by simp[Go.Op.operands]):p:=h
theorem O9{p:Prop}(h:p:=by simp[Go.Value.cells,Go.Value.oneCell']):p:=h
section
section
namespace Go.Am
abbrev Aq:=List UInt8
inductive Aa where
 |bool (b:Bool)
 |int (k:IntKind) (n:Int)
 |str (s:Aq)
 |ptr (p:Option (Nat×Nat))
 |Cz (cells:List Aa)
 |sl (size:Nat) (Ao:List (List Aa))
 |slnil
 |Fq (size:Nat)
 |CL (id off len size:Nat)
 |map (m:Option Nat)
 |func (fn:Fn) (first captured:List Aa)
 |nilFunc
 |iface (t:TypeId) (v:Aa)
 |nilIface
 |agg (cells:List Aa)
 |tuple (vs:List Aa)
 deriving Inhabited
mutual
def Aa.beq:Aa->Aa->Bool
 | .bool a,.bool b=>a==b
 | .int k a,.int l b=>k==l&&a==b
 | .str a,.str b=>a==b
 | .ptr a,.ptr b=>a==b
 | .Cz a,.Cz b=>Aa.PG a b
 | .sl n a,.sl m b=>n==m&&Aa.PH a b
 | .slnil,.slnil=>true
 | .Fq a,.Fq b=>a==b
 | .CL a b c d,.CL a' b' c' e=>a==a'&&b==b'&&c==c'&&d==e
 | .map a,.map b=>a==b
 | .func f a b,.func f' a' b'=>f==f'&&Aa.PG a a'&&Aa.PG b b'
 | .nilFunc,.nilFunc=>true
 | .iface t a,.iface t' a'=>t==t'&&Aa.beq a a'
 | .nilIface,.nilIface=>true
 | .agg a,.agg b=>Aa.PG a b
 | .tuple a,.tuple b=>Aa.PG a b
 |_,_=>false
def Aa.PG:List Aa->List Aa->Bool
 |[],[]=>true
 |a::x,b::y=>Aa.beq a b&&Aa.PG x y
 |_,_=>false
def Aa.PH:List (List Aa)->List (List Aa)->Bool
 |[],[]=>true
 |a::x,b::y=>Aa.PG a b&&Aa.PH x y
 |_,_=>false
end
def Aa.cells:Aa->List Aa
 | .agg cs=>cs
 | .tuple _=>[]
 |v=>[v]
inductive DJ where
 |cells (cs:List Aa)
 |map (es:List (Aa×Aa))
 |DK
 deriving Inhabited
abbrev Ah:=List DJ
inductive qM where
 |copy (size:Nat)
 |clear (size:Nat) (zero:List Aa)
 |mF (size:Nat) (lo hi:Bool)
 |bZ (size:Nat)
 |P_ (t:TypeId)
 |yG (zero:Aa) (ok:Bool)
 |MB (zero:Aa)
 |qN (zero:Aa)
 |Lw
 |oc
 |mG
 |Td (g:Ah->List Aa->Option (Ah×Aa))
def qM.Q_:qM->Bool
 | .bZ _| .clear _ _| .Lw| .oc=>true
 |_=>false
inductive D0 where
 |undef
 |skip
 |val (v:Aa)
 |Nj (b:Bool)
 |BE (v:Aa)
 |box (ver:Nat) (cells:List Aa) (BE:List Nat)
 |EI (s off:Nat)
 deriving Inhabited
abbrev Bx:=List D0
def Bx.at(U:Bx)(s:Nat):D0:=U.getD s .undef
def D0.Gt:D0->Option Aa
 | .val v| .BE v=>some v
 | .Nj b=>some (.bool b)
 |_=>none
inductive FK where
 |b|i|s
 deriving DecidableEq,Inhabited
inductive NK where
 |sl|fn|mp
 deriving DecidableEq,Inhabited
inductive Vi where
 |int (op:BinOp)
 |str (op:BinOp)
 |beq (neg:Bool)
 |geq (neg:Bool) (ks:List FK)
 |Te (neg:Bool)
 |Gu (neg:Bool) (k:NK)
 |un (op:UnOp)
 |conv(k:IntKind)
 |pick
 |part (off:Nat) (n:Option Nat)
 |od (len size:Nat) (n:Option Nat)
 |YT
 |FV (off:Nat)
 |Gm (size:Nat)
 |Tg (len size:Nat)
 |len (isStr:Bool)
 |append (size bytes:Nat)
 |PI (size:Nat) (isStr lo hi:Bool)
 |ext (i:Nat)
 |KC
 |Cf (size:Nat)
 |Fq (size:Nat)
 |B4 (zero:List Aa) (places:List (Nat×Nat))
 |J5 (isMax:Bool)
 |Vk
 |zg
 |i2s
 deriving Inhabited
def No:Value->Option Aa
 | .bool b=>some (.bool b)
 | .int k n=>some (.int k n)
 | .string s=>some (.str s.data.toList)
 | .pointer none=>some (.ptr none)
 | .slice none 0 0=>some .slnil
 | .map none=>some (.map none)
 | .func fn f c=>if f.size=0/\c.size=0 then some (.func fn [] []) else none
 | .nilFunc=>some .nilFunc
 | .nilIface=>some .nilIface
 |_=>none
def Kw:List Value->Option (List Aa)
 |[]=>some []
 |v::vs=>match No v,Kw vs with
  |some a,some as=>some (a::as)
  |_,_=>none
def Jz:Value->Option Aa
 | .agg cs=>(Kw cs.toList).map .agg
 |v=>No v
def Od:Sem Value->Option Value
 | .pure v=>some v
 |_=>none
def AQ:Nat:=140737488355328
def iA(op:BinOp)(k:IntKind)(a:Int)(l:IntKind)(b:Int):Option Aa:=
 (Od (binOp op 0 (.int k a) (.int l b))).bind λv=>match v with
  | .int k n=>some (.int k n)
  | .bool b=>some (.bool b)
  |_=>none
def YU(op:BinOp)(a b:Aq):Option Aa:=
 match op with
 | .add=>if a.length+b.length<=9223372036854775807 then some (.str (a++b)) else none
 | .eql=>some (.bool (a==b))
 | .neq=>some (.bool (!(a==b)))
 | .lss=>some (.bool (Op.bytesLess a b))
 | .leq=>some (.bool (Op.bytesLess a b||a==b))
 | .gtr=>some (.bool (!(Op.bytesLess a b||a==b)))
 | .geq=>some (.bool (!(Op.bytesLess a b)))
 |_=>none
def Lx:FK->Aa->Aa->Option Bool
 | .b,.bool a,.bool b=>some (a==b)
 | .i,.int k a,.int l b=>if k=l then some (a==b) else none
 | .s,.str a,.str b=>some (a==b)
 |_,_,_=>none
def DQ:List FK->List Aa->List Aa->Option Bool
 |[],[],[]=>some true
 |k::ks,a::x,b::y=>match Lx k a b,DQ ks x y with
  |some e,some es=>some (e&&es)
  |_,_=>none
 |_,_,_=>none
def iB:Aa->Aa->Option Bool
 | .ptr none,.ptr b=>some b.isNone
 | .ptr (some _),.ptr none=>some false
 | .ptr (some a),.ptr (some b)=>if a=b then some true else none
 | .ptr none,.Cz _=>some false
 | .Cz _,.ptr none=>some false
 |_,_=>none
def iC:NK->Aa->Aa->Option Bool
 | .sl,.slnil,.slnil=>some true
 | .sl,.slnil,.sl _ _=>some false
 | .sl,.sl _ _,.slnil=>some false
 | .sl,.slnil,.Fq _=>some false
 | .sl,.Fq _,.slnil=>some false
 | .sl,.slnil,.CL _ _ _ _=>some false
 | .sl,.CL _ _ _ _,.slnil=>some false
 | .fn,.nilFunc,.nilFunc=>some true
 | .fn,.nilFunc,.func _ _ _=>some false
 | .fn,.func _ _ _,.nilFunc=>some false
 | .mp,.map none,.map b=>some b.isNone
 | .mp,.map (some _),.map none=>some false
 |_,_,_=>none
def EJ(cs:List Aa)(off:Nat):Option Nat->Option Aa
 |none=>cs[off]?
 |some n=>if off+n<=cs.length then some (.agg ((cs.drop off).take n)) else none
def LW(n:Int)(len:Nat):Option Nat:=if 0<=n/\n<len then some n.toNat else none
def FG(n:Int)(top:Nat):Option Nat:=if 0<=n/\n<=top then some n.toNat else none
def D2(lo hi:Bool)(len:Nat)(as:List Aa):Option (Nat×Nat):=
 match lo,hi with
 |false,false=>match as with
  |[]=>some (0,len)
  |_=>none
 |false,true=>match as with
  |[.int _ h]=>(FG h len).map λh=>(0,h)
  |_=>none
 |true,false=>match as with
  |[.int _ l]=>(FG l len).map λl=>(l,len)
  |_=>none
 |true,true=>match as with
  |[.int _ l,.int _ h]=>(FG h len).bind λh=>(FG l h).map λl=>(l,h)
  |_=>none
def Lb:List (List Aa)->Option Aq
 |[]=>some []
 |[.int .u8 n]::rs=>(Lb rs).map λl=>n.toNat.toUInt8::l
 |_=>none
def CI(s:Aq):List (List Aa):=s.map λb=>[.int .u8 b.toNat]
def C4(size bytes:Nat)(s:Aa)(Ao:List (List Aa)):Option Aa:=
 match Ao with
 |[]=>match s with
  | .slnil=>some .slnil
  | .Fq z=>if z=size then some (.Fq z) else none
  | .sl z r=>if z=size then some (.sl z r) else none
  |_=>none
 |Ao=>match s with
  | .slnil=>if Ao.length*bytes<=AQ then some (.sl size Ao) else none
  | .Fq z=>if z=size/\Ao.length*bytes<=AQ then some (.sl size Ao) else none
  | .sl z r=>if z=size/\(r.length+Ao.length)*bytes<=AQ then some (.sl size (r++Ao)) else none
  |_=>none
def BD(cs:List Aa):List ((Nat×Nat)×Aa)->Option (List Aa)
 |[]=>some cs
 |((off,size),v)::rest=>if 0<size/\v.cells.length=size/\off+size<=cs.length then BD (cs.take off++v.cells++cs.drop (off+size)) rest else none
def jn(k:IntKind)(n:Int):Option Aa:=
 (Od (Op.unary .xor (.int k n))).bind λv=>match v with
  | .int k n=>some (.int k n)
  |_=>none
def oe:UnOp->Aa->Option Aa
 | .not,.bool b=>some (.bool (!b))
 | .neg,.int k n=>some (.int k (k.wrap (0 -n)))
 | .xor,.int k n=>jn k n
 |_,_=>none
def VU(p:Aa)(off:Nat):Option Aa:=
 match p with
 | .Cz cs=>some (.Cz (cs.drop off))
 | .ptr (some (id,o))=>some (.ptr (some (id,o+off)))
 |_=>none
def elemOf(size:Nat)(s:Aa)(i:Int):Option Aa:=
 match s with
 | .sl z Ao=>if z=size then(if 0<=i then(Ao[i.toNat]?).map .Cz else none) else none
 | .CL id off len z=>if z=size then(LW i len).map λi=> .ptr (some (id,off+i*size)) else none
 |_=>none
def lenOf(isStr:Bool)(s:Aa):Option Aa:=
 match s with
 | .sl _ Ao=>if isStr then none else some (.int .i64 Ao.length)
 | .CL _ _ n _=>if isStr then none else some (.int .i64 n)
 | .slnil=>if isStr then none else some (.int .i64 0)
 | .Fq _=>if isStr then none else some (.int .i64 0)
 | .str s=>if isStr then some (.int .i64 s.length) else none
 |_=>none
def GP(size bytes:Nat)(s x:Aa):Option Aa:=
 match x with
 | .slnil=>C4 size bytes s []
 | .Fq z=>if z=size then C4 size bytes s [] else none
 | .sl z Ao=>if z=size then C4 size bytes s Ao else none
 | .str x=>if size=1 then C4 size bytes s (CI x) else none
 |_=>none
def Km(size:Nat)(isStr lo hi:Bool)(s:Aa)(as:List Aa):Option Aa:=
 match s with
 | .str s=>if isStr then(D2 lo hi s.length as).map λ(l,h)=> .str ((s.take h).drop l) else none
 | .sl z Ao=>if isStr=false/\z=size then(D2 lo hi Ao.length as).map λ(l,h)=> .sl z ((Ao.take h).drop l) else none
 | .CL id off n z=>if isStr=false/\z=size then(D2 lo hi n as).bind λ(l,h)=>if l<n then some (.CL id (off+l*z) (h-l) z) else some (.sl z []) else none
 | .slnil=>if isStr then none else(D2 lo hi 0 as).map λ_=> .slnil
 |_=>none
def YV:Aa->Option Aa
 | .ptr (some p)=>some (.ptr (some p))
 | .Cz cs=>some (.Cz cs)
 | .func (.func f) a b=>some (.func (.func f) a b)
 |_=>none
def Xa:Aa->Option Aa
 | .sl 1 Ao=>(Lb Ao).map .str
 | .slnil=>some (.str [])
 |_=>none
def Ay(p:Vi)(args:List Aa):Option Aa:=
 match p with
 | .int op=>match args with
  |[.int k a,.int l b]=>iA op k a l b
  |_=>none
 | .str op=>match args with
  |[.str a,.str b]=>YU op a b
  |_=>none
 | .beq neg=>match args with
  |[.bool a,.bool b]=>some (.bool ((a==b) != neg))
  |_=>none
 | .geq neg ks=>match args with
  |[.agg a,.agg b]=>(DQ ks a b).map λe=> .bool (e != neg)
  |_=>none
 | .Te neg=>match args with
  |[a,b]=>(iB a b).map λe=> .bool (e != neg)
  |_=>none
 | .Gu neg k=>match args with
  |[a,b]=>(iC k a b).map λe=> .bool (e != neg)
  |_=>none
 | .un op=>match args with
  |[v]=>oe op v
  |_=>none
 | .conv k=>match args with
  |[.int _ n]=>some (.int k (k.wrap n))
  |_=>none
 | .i2s=>match args with
  |[.int _ n]=>some (.str (Utf8.encode n).data.toList)
  |_=>none
 | .pick=>match args with
  |[.bool c,a,b]=>some (if c then a else b)
  |_=>none
 | .part off n=>match args with
  |[.agg cs]=>EJ cs off n
  |_=>none
 | .od len size n=>match args with
  |[.agg cs,.int _ i]=>(LW i len).bind λi=>EJ cs (i*size) n
  |_=>none
 | .YT=>match args with
  |[.str s,.int _ i]=>if 0<=i then(s[i.toNat]?).map λb=> .int .u8 b.toNat else none
  |_=>none
 | .FV off=>match args with
  |[p]=>VU p off
  |_=>none
 | .Gm size=>match args with
  |[s,.int _ i]=>elemOf size s i
  |_=>none
 | .Tg len size=>match args with
  |[p,.int _ i]=>(LW i len).bind λi=>VU p (i*size)
  |_=>none
 | .len isStr=>match args with
  |[s]=>lenOf isStr s
  |_=>none
 | .append size bytes=>match args with
  |[s,x]=>GP size bytes s x
  |_=>none
 | .PI size isStr lo hi=>match args with
  |s::as=>Km size isStr lo hi s as
  |_=>none
 | .ext i=>match args with
  |[.tuple vs]=>vs[i]?
  |_=>none
 | .KC=>match args with
  |[v]=>YV v
  |_=>none
 | .Cf size=>if args.all (λa=>a.cells.length==size)&&decide (args.length*size<=16777216) then some (.sl size (args.map (·.cells))) else none
 | .Fq size=>if args.isEmpty then some (.Fq size) else none
 | .B4 zero places=>if places.length=args.length then(BD zero (places.zip args)).map .agg else none
 | .J5 isMax=>match args with
  |[.int k a,.int l b]=>if k=l then some (.int k (if isMax then(if b>a then b else a) else(if b<a then b else a))) else none
  |_=>none
 | .Vk=>match args with
  |[v]=>Xa v
  |_=>none
 | .zg=>match args with
  |[.str s]=>if s.length<=AQ then some (.sl 1 (CI s)) else none
  |_=>none
inductive Fs where
 |normal
 |exit (id:Nat)
 |ret
 deriving DecidableEq,Inhabited
inductive IT where
 |ret (x:Fs) (vs:List Aa)
 |fail
 |op (o:Vi) (args:List Aa) (k:Aa->IT)
 |cells (n:Nat) (v:Aa) (k:List Aa->IT)
 |AX (c:Aa) (t e:IT)
 |load (n:Option Nat) (p:Aa) (k:Aa->IT)
 |store (n:Nat) (p v:Aa) (k:IT)
 |alloc (n:Nat) (v:Aa) (k:Aa->IT)
 |call (f:FuncId) (args:List Aa) (k:Aa->IT)
 |FH (fn:Aa) (args:List Aa) (k:Aa->IT)
 |Co (f:FuncId) (args:List Aa) (k:Aa->IT)
 |loop (key:Nat) (init:List Aa) (body:List Aa->IT) (k:Fs->List Aa->IT)
 |Fj (key:Nat) (t:IT) (k:Fs->List Aa->IT)
 |same (a b:Aa) (k:IT)
 |OC (k:Aa->IT)
 |JJ (m key v:Aa) (k:IT)
 |LX (zero:Aa) (ok:Bool) (m key:Aa) (k:Aa->IT)
 |make (size bytes:Nat) (zero:List Aa) (len cap:Aa) (k:Aa->IT)
 |Ja (size bytes:Nat) (s x:Aa) (k:Aa->IT)
 |E4 (s:Aa) (k:Aa->IT)
 |Th (v:Aa) (k:Aa->IT)
 |HX (off:Nat) (p:Aa) (k:IT)
 |FJ (size bytes:Nat) (s x:Aa) (k:Aa->IT)
 |FW (size bytes:Nat) (s x:Aa) (k:Aa->IT)
 |mem (o:qM) (args:List Aa) (k:Aa->IT)
 |qO (f:FuncId) (args:List Aa) (k:Aa->IT)
 deriving Inhabited
def Aa.K6:Aa->Bool
 | .bool _| .int _ _| .str _=>true
 |_=>false
def Bq(h:Ah)(n:Option Nat):Aa->Option Aa
 | .Cz cs=>EJ cs 0 n
 | .ptr (some (id,off))=>match h[id]? with
  |some (.cells cs)=>EJ cs off n
  |_=>none
 |_=>none
def CM(h:Ah)(n:Nat)(p v:Aa):Option Ah:=
 match p with
 | .ptr (some (id,off))=>match h[id]? with
  |some (.cells cs)=>if v.cells.length=n/\off+n<=cs.length then some (h.set id (.cells (cs.take off++v.cells++cs.drop (off+n)))) else none
  |_=>none
 |_=>none
def Xb(h:Ah)(n:Nat)(v:Aa):Option (Ah×Aa):=
 if v.cells.length=n then some (h++[.cells v.cells],.ptr (some (h.length,0))) else none
def Ti(s:Aq):List (Aa×Aa)->Option (Option Aa)
 |[]=>some none
 |(.str t,v)::es=>if s=t then some (some v) else Ti s es
 |_=>none
def Nk(s:Aq)(v:Aa):List (Aa×Aa)->Option (List (Aa×Aa))
 |[]=>some [(.str s,v)]
 |(.str t,v')::es=>if s=t then some ((.str s,v)::es) else(Nk s v es).map λes=>(.str t,v')::es
 |_=>none
def RH(h:Ah)(m k v:Aa):Option Ah:=
 match m,k with
 | .map (some id),.str s=>match h[id]? with
  |some (.map es)=>(Nk s v es).map λes=>h.set id (.map es)
  |_=>none
 |_,_=>none
def Tj(h:Ah)(m k:Aa):Option (Option Aa):=
 match m,k with
 | .map none,.str _=>some none
 | .map (some id),.str s=>match h[id]? with
  |some (.map es)=>Ti s es
  |_=>none
 |_,_=>none
def RI(h:Ah)(zero:Aa)(ok:Bool)(m k:Aa):Option Aa:=
 (Tj h m k).map λr=>match r with
  |some v=>if ok then .tuple [v,.bool true] else v
  |none=>if ok then .tuple [zero,.bool false] else zero
def OM(h:Ah)(size bytes:Nat)(zero:List Aa):Aa->Aa->Option (Ah×Aa)
 | .int .i64 n,.int .i64 c=>if 0<=n/\n<=c/\c.toNat*bytes<=AQ/\zero.length=size then
  some (h++[.cells (List.replicate c.toNat zero).flatten],.CL h.length 0 n.toNat size) else none
 |_,_=>none
def Np(size:Nat):Aa->Bool
 | .slnil=>true
 | .Fq z=>z==size
 | .sl z []=>z==size
 |_=>false
def Ly(h:Ah)(size bytes:Nat)(s:Aa):Aa->Option (Ah×Aa)
 | .sl z Ao=>if Np size s then(match Ao with
   |[]=>some (h,s)
   |Ao=>if z=size/\Ao.length*bytes<=AQ then some (h++[.cells Ao.flatten],.CL h.length 0 Ao.length size) else none)
  else none
 | .slnil=>if Np size s then some (h,s) else none
 | .Fq z=>if Np size s&&z==size then some (h,s) else none
 |_=>none
def Ir(h:Ah):Aa->Option (Ah×Aa)
 | .str s=>if s.length<=AQ then some (h++[.cells (s.map λb=> .int .u8 b.toNat)],.CL h.length 0 s.length 1) else none
 |_=>none
def Cg(cs:List Aa)(z:Nat):Nat->Nat->List (List Aa)
 |_,0=>[]
 |off,n+1=>(cs.drop off).take z::Cg cs z (off+z) n
def LA(h:Ah):Aa->Option (Ah×Aa)
 | .CL id off n z=>match h[id]? with
  |some (.cells cs)=>if off+n*z<=cs.length then some (h.set id .DK,.sl z (Cg cs z off n)) else none
  |_=>none
 |v=>some (h,v)
def KD(h:Ah)(off:Nat)(p:Aa):Option Ah:=
 match p with
 | .ptr none=>some h
 | .ptr (some (id,o))=>match h[id]? with
  |some (.cells cs)=>match cs[o+off]? with
   |some v=>(LA h v).bind λ(h',v')=>match h'[id]? with
    |some (.cells Gd)=>some (h'.set id (.cells (Gd.set (o+off) v')))
    |_=>none
   |none=>none
  |_=>none
 |_=>none
def Gv(h:Ah)(size:Nat):Aa->Option (List (List Aa))
 | .slnil=>some []
 | .Fq z=>if z=size then some [] else none
 | .sl z Ao=>if z=size then some Ao else none
 | .str s=>if size=1 then some (CI s) else none
 | .CL id off n z=>if z=size then match h[id]? with
   |some (.cells cs)=>if off+n*z<=cs.length then some (Cg cs z off n) else none
   |_=>none
  else none
 |_=>none
def FX(h:Ah)(size bytes:Nat)(s x:Aa):Option (Ah×Aa):=
 match Gv h size x with
 |none=>none
 |some []=>match s with
  | .slnil=>some (h,s)
  | .Fq z=>if z=size then some (h,s) else none
  | .CL _ _ _ z=>if z=size then some (h,s) else none
  |_=>none
 |some Ao=>match s with
  | .slnil=>if Ao.length*bytes<=AQ then some (h++[.cells Ao.flatten],.CL h.length 0 Ao.length size) else none
  | .Fq z=>if z=size/\Ao.length*bytes<=AQ then some (h++[.cells Ao.flatten],.CL h.length 0 Ao.length size) else none
  | .CL id off n z=>match h[id]? with
   |some (.cells cs)=>if z=size then
     (if off+(n+Ao.length)*z<=cs.length then some (h.set id (.cells (cs.take (off+n*z)++Ao.flatten++cs.drop (off+(n+Ao.length)*z))),.CL id off (n+Ao.length) z)
     else if off=0/\n*z<=cs.length/\(n+Ao.length)*bytes<=AQ then some (h.set id .DK++[.cells (cs.take (n*z)++Ao.flatten)],.CL h.length 0 (n+Ao.length) z) else none)
    else none
   |_=>none
  |_=>none
def ON(h:Ah)(size bytes:Nat)(s x:Aa):Option Aa:=(Gv h size x).bind (C4 size bytes s)
def iD(h:Ah)(size:Nat)(d x:Aa):Option (Ah×Aa):=
 match Gv h size x with
 |none=>none
 |some Ao=>match d with
  | .slnil=>if Ao.length=0 then some (h,.int .i64 0) else none
  | .CL id off n z=>match h[id]? with
   |some (.cells cs)=>if z=size/\Ao.length<=n/\off+n*z<=cs.length then some (h.set id (.cells (cs.take off++Ao.flatten++cs.drop (off+Ao.length*z))),.int .i64 Ao.length) else none
   |_=>none
  |_=>none
def Tk(h:Ah)(size:Nat)(zero:List Aa):Aa->Option (Ah×Aa)
 | .slnil=>some (h,.bool true)
 | .CL id off n z=>match h[id]? with
  |some (.cells cs)=>if z=size/\zero.length=size/\off+n*z<=cs.length then some (h.set id (.cells (cs.take off++(List.replicate n zero).flatten++cs.drop (off+n*z))),.bool true) else none
  |_=>none
 |_=>none
def YW(h:Ah)(size:Nat)(lo hi:Bool)(s:Aa)(as:List Aa):Option (Ah×Aa):=
 match s with
 | .CL id off n z=>match h[id]? with
  |some (.cells cs)=>if z=size/\hi=true/\off<=cs.length then(D2 lo hi ((cs.length-off)/z) as).bind λ(l,r)=>if l<(cs.length-off)/z then some (h,.CL id (off+l*z) (r-l) z) else none else none
  |_=>none
 |_=>none
def Tl(size:Nat):List Aa->Bool
 |[s,.int _ l,.int _ r,.int _ m]=>match s with
  | .CL _ _ n z=>z=size&&decide (0<=l)&&decide (l<=r)&&decide (r<=m)&&decide (m<=n)
  | .sl z Ao=>z=size&&decide (0<=l)&&decide (l<=r)&&decide (r<=m)&&decide (m<=Ao.length)
  |_=>false
 |_=>false
def J6(k:Int):List (Aa×Aa)->Nat->Option (Option (Nat×Aa))
 |[],_=>some none
 |(.int .i64 t,v)::es,i=>if k=t then some (some (i,v)) else J6 k es (i+1)
 |_,_=>none
def cA(zero:Aa)(ok:Bool):Option (Nat×Aa)->Aa
 |some (_,v)=>if ok then .tuple [v,.bool true] else v
 |none=>if ok then .tuple [zero,.bool false] else zero
def iE(h:Ah)(zero:Aa)(ok:Bool)(m k:Aa):Option (Ah×Aa):=
 match m,k with
 | .map none,.int .i64 _=>some (h,cA zero ok none)
 | .map (some id),.int .i64 n=>match h[id]? with
  |some (.map es)=>(J6 n es 0).map λr=>(h,cA zero ok r)
  |_=>none
 |_,_=>none
def SR(h:Ah)(zero m k:Aa):Option (Ah×Aa):=
 match m,k with
 | .map (some id),.int .i64 n=>match h[id]? with
  |some (.map es)=>(J6 n es 0).map λr=>match r with
   |some (i,v)=>(h,.tuple [v,.int .i64 i])
   |none=>(h.set id (.map (es++[(k,zero)])),.tuple [zero,.int .i64 es.length])
  |_=>none
 |_,_=>none
def Tm(k:Aq):List (Aa×Aa)->Nat->Option (Option (Nat×Aa))
 |[],_=>some none
 |(.str t,v)::es,i=>if k=t then some (some (i,v)) else Tm k es (i+1)
 |_,_=>none
def Xc(h:Ah)(zero m k:Aa):Option (Ah×Aa):=
 match m,k with
 | .map (some id),.str n=>match h[id]? with
  |some (.map es)=>(Tm n es 0).map λr=>match r with
   |some (i,v)=>(h,.tuple [v,.int .i64 i])
   |none=>(h.set id (.map (es++[(k,zero)])),.tuple [zero,.int .i64 es.length])
  |_=>none
 |_,_=>none
def SU(h:Ah)(m i v:Aa):Option (Ah×Aa):=
 match m,i with
 | .map (some id),.int .i64 n=>match h[id]? with
  |some (.map es)=>if 0<=n then match es[n.toNat]? with
   |some (k,_)=>some (h.set id (.map (es.set n.toNat (k,v))),.bool true)
   |none=>none
   else none
  |_=>none
 |_,_=>none
def qP(h:Ah)(m k v:Aa):Option (Ah×Aa):=
 match m,k with
 | .map (some id),.int .i64 n=>match h[id]? with
  |some (.map es)=>match J6 n es 0 with
   |some none=>some (h.set id (.map (es++[(.int .i64 n,v)])),.bool true)
   |_=>none
  |_=>none
 |_,_=>none
def Oe(h:Ah):List Aa->Option (Ah×Aa)
 |[.slnil,.int .i64 i,.sl 1 [[.int .i64 x]]]=>if i=0 then some (h++[.cells [.int .i64 x]],.CL h.length 0 1 1) else none
 |[.CL id 0 n 1,.int .i64 i,.sl 1 [[.int .i64 x]]]=>match h[id]? with
  |some (.cells cs)=>if 0<=i/\i.toNat<=n/\n<=cs.length/\(n+1)*8<=AQ then some (h.set id .DK++[.cells (cs.take i.toNat++[.int .i64 x]++(cs.take n).drop i.toNat)],.CL h.length 0 (n+1) 1) else none
  |_=>none
 |_=>none
def EC(o:qM)(h:Ah)(args:List Aa):Option (Ah×Aa):=
 match o with
 | .copy size=>match args with
  |[d,x]=>iD h size d x
  |_=>none
 | .clear size zero=>match args with
  |[s]=>Tk h size zero s
  |_=>none
 | .mF size lo hi=>match args with
  |s::as=>YW h size lo hi s as
  |_=>none
 | .bZ size=>if Tl size args then some (h,.bool true) else none
 | .P_ t=>match args with
  |[v]=>some (h,.iface t v)
  |_=>none
 | .yG zero ok=>match args with
  |[m,k]=>iE h zero ok m k
  |_=>none
 | .MB zero=>match args with
  |[m,k]=>SR h zero m k
  |_=>none
 | .qN zero=>match args with
  |[m,k]=>Xc h zero m k
  |_=>none
 | .Lw=>match args with
  |[m,i,v]=>SU h m i v
  |_=>none
 | .oc=>match args with
  |[m,k,v]=>qP h m k v
  |_=>none
 | .mG=>Oe h args
 | .Td g=>g h args
def Ez(f:FuncId):FuncId:=if f<=99999 then f else f%100000
def De:Aa->List Aa->Option (FuncId×List Aa)
 | .func (.func f) first captured,args=>if f<=99999 then some (f,first++args++captured) else none
 |_,_=>none
abbrev Jb:=Fs×List Aa×Ah
def IT.step(fn:FuncId->List Aa->IT)(rec:IT->Ah->Option Jb):IT->Ah->Option Jb
 | .ret x vs,h=>some (x,vs,h)
 | .fail,_=>none
 | .op o args k,h=>match Ay o args with
  |some v=>IT.step fn rec (k v) h
  |none=>none
 | .cells n v k,h=>if v.cells.length=n then IT.step fn rec (k v.cells) h else none
 | .AX c t e,h=>match c with
  | .bool true=>IT.step fn rec t h
  | .bool false=>IT.step fn rec e h
  |_=>none
 | .load n p k,h=>match Bq h n p with
  |some v=>IT.step fn rec (k v) h
  |none=>none
 | .store n p v k,h=>match CM h n p v with
  |some h'=>IT.step fn rec k h'
  |none=>none
 | .alloc n v k,h=>match Xb h n v with
  |some (h',p)=>IT.step fn rec (k p) h'
  |none=>none
 | .call f args k,h=>match rec (fn f args) h with
  |some (.ret,[r],h')=>IT.step fn rec (k r) h'
  |_=>none
 | .FH g args k,h=>match De g args with
  |some (f,args)=>match rec (fn f args) h with
   |some (.ret,[r],h')=>IT.step fn rec (k r) h'
   |_=>none
  |none=>none
 | .Co f args k,h=>if args.all Aa.K6 then match rec (fn f args) [] with
   |some (.ret,[r],_)=>if r.K6 then IT.step fn rec (k r) h else none
   |_=>none
  else none
 | .loop key init body k,h=>match IT.step fn rec (body init) h with
  |some (.normal,vs,h')=>rec (.loop key vs body k) h'
  |some (x,vs,h')=>IT.step fn rec (k x vs) h'
  |none=>none
 | .Fj _ t k,h=>match IT.step fn rec t h with
  |some (x,vs,h')=>IT.step fn rec (k x vs) h'
  |none=>none
 | .same a b k,h=>if Aa.beq a b then IT.step fn rec k h else none
 | .OC k,h=>IT.step fn rec (k (.map (some h.length))) (h++[.map []])
 | .JJ m key v k,h=>match RH h m key v with
  |some h'=>IT.step fn rec k h'
  |none=>none
 | .LX zero ok m key k,h=>match RI h zero ok m key with
  |some v=>IT.step fn rec (k v) h
  |none=>none
 | .make size bytes zero len cap k,h=>match OM h size bytes zero len cap with
  |some (h',v)=>IT.step fn rec (k v) h'
  |none=>none
 | .Ja size bytes s x k,h=>match Ly h size bytes s x with
  |some (h',v)=>IT.step fn rec (k v) h'
  |none=>none
 | .E4 s k,h=>match Ir h s with
  |some (h',v)=>IT.step fn rec (k v) h'
  |none=>none
 | .Th v k,h=>match LA h v with
  |some (h',v')=>IT.step fn rec (k v') h'
  |none=>none
 | .HX off p k,h=>match KD h off p with
  |some h'=>IT.step fn rec k h'
  |none=>none
 | .FJ size bytes s x k,h=>match FX h size bytes s x with
  |some (h',v)=>IT.step fn rec (k v) h'
  |none=>none
 | .FW size bytes s x k,h=>match ON h size bytes s x with
  |some v=>IT.step fn rec (k v) h
  |none=>none
 | .mem o args k,h=>match EC o h args with
  |some (h',v)=>IT.step fn rec (k v) h'
  |none=>none
 | .qO f args k,h=>match rec (fn f args) [] with
  |some (.ret,[r],_)=>if r.K6 then IT.step fn rec (k r) h else none
  |_=>none
def IT.run(fn:FuncId->List Aa->IT):Nat->IT->Ah->Option Jb
 |0=>λ_ _=>none
 |n+1=>IT.step fn (IT.run fn n)
end Go.Am
end
section
namespace Go.Am
inductive Sh where
 |val
 |BE
 |box (n:Nat) (BE:List Nat)
 deriving Inhabited
inductive iF where
 |Nq|heap
 deriving DecidableEq,Inhabited
structure FC where
 P:Program
 og:FuncId->Nat->List (Nat×Sh)
 jo:FuncId->Nat->Option (List (Nat×Sh))
 jq:FuncId->Nat->Option (List (Nat×Sh))
 kind:FuncId->Nat->iF
 IJ:FuncId->Bool
 jr:FuncId->Bool
 mH:FuncId->Nat->Bool
 Sq:FuncId->Nat->Bool
 qQ:FuncId->Bool
 qR:FuncId->List (Nat×Nat)
 Gq:Nat->Option (List Aa)
 oh:FuncId->Option (List Aa->IT)
 R_:FuncId->FuncId->FuncId
 My:FuncId->Bool
inductive Ei where
 |pure (ws:List (Nat×D0))
 |op (p:Vi) (args:List Aa) (dst:Option Nat) (BE:Bool) (Da:Option (Nat×Aa))
 |box (n:Nat) (v:Aa) (dst:Nat)
 |Kn (fn:Fn) (first captured:List Aa) (froze:List (Nat×List Aa)) (dst:Nat)
 |LB (s off n:Nat) (v:Aa) (BE:Bool) (Da:Option (Nat×Aa)) (ver:Nat) (cells:List Aa) (owned:List Nat)
 |load (n:Option Nat) (p:Aa) (dst:Option Nat)
 |store (n:Nat) (p v:Aa)
 |alloc (n:Nat) (v:Aa) (dst:Option Nat)
 |call (f:FuncId) (args:List Aa) (dst:Option Nat)
 |FH (g:Aa) (args:List Aa) (dst:Option Nat)
 |Co (f:FuncId) (args:List Aa) (dst:Option Nat)
 |OC (dst:Option Nat)
 |JJ (m k v:Aa)
 |LX (zero:Aa) (ok:Bool) (m k:Aa) (dst:Option Nat)
 |make (size bytes:Nat) (zero:List Aa) (len cap:Aa) (dst:Option Nat)
 |Ja (size bytes:Nat) (s x:Aa) (dst:Option Nat) (Da:Option (Nat×Aa))
 |FJ (size bytes:Nat) (s x:Aa) (dst:Option Nat)
 |FW (size bytes:Nat) (s x:Aa) (dst:Option Nat) (Da:Option (Nat×Aa))
 |E4 (s:Aa) (dst:Option Nat)
 |Vk (v:Aa) (dst:Option Nat)
 |mem (o:qM) (args:List Aa) (dst:Option Nat)
def BJ(P:Program)(t:TypeId):Option Nat:=(P.info? t).map (·.size)
def IK(P:Program)(t:TypeId):Option Nat:=(P.info? t).map (·.bytes)
def EM(P:Program)(t:TypeId):Option (Option Nat):=
 match P.underlying t with
 |some (.struct _)|some (.array _ _)=>(BJ P t).map some
 |some _=>some none
 |none=>none
def Ge(P:Program)(t:TypeId):Option Aa:=((P.info? t).bind (·.zero)).bind Jz
def Tn(rec:TypeId->Option (List FK)):List Field->Nat->Option (List FK)
 |[],_=>some []
 |f::fs,off=>if f.name≠ "_"/\f.offset=off then match rec f.type with
   |some ks=>(Tn rec fs (off+ks.length)).map (ks++·)
   |none=>none
  else none
def Nr(P:Program):Nat->TypeId->Option (List FK)
 |0,_=>none
 |d+1,t=>
  let one (k:FK):Option (List FK):=if BJ P t=some 1 then some [k] else none
  match P.underlying t with
  |some .bool=>one .b
  |some (.int _)=>one .i
  |some .string=>one .s
  |some (.struct fs)=>match Tn (Nr P d) fs.toList 0 with
   |some ks=>if BJ P t=some ks.length/\P.stoodInHeld t=false then some ks else none
   |none=>none
  |_=>none
def Hk(P:Program)(s:TypeId)(f:Nat):Option (Nat×Option Nat):=
 match P.underlying s with
 |some (.struct fs)=>match fs[f]? with
  |some fd=>match BJ P fd.type,EM P fd.type with
   |some (_+1),some a=>some (fd.offset,a)
   |_,_=>none
  |none=>none
 |_=>none
def DF(C:FC)(U:Bx):Operand->Option D0
 | .tmp t=>some (U.at t)
 | .const (.bool b)=>some (.Nj b)
 | .const (.slice none 0 0)=>some (.BE .slnil)
 | .const v=>(Jz v).map .val
 | .global g=>(C.Gq g).map λcs=> .val (.Cz cs)
 | .func f=>some (.val (.func (.func f) [] []))
def Ex(C:FC)(U:Bx)(x:Operand):Option Aa:=(DF C U x).bind D0.Gt
def Be(C:FC)(U:Bx):List Operand->Option (List Aa)
 |[]=>some []
 |x::xs=>match Ex C U x,Be C U xs with
  |some v,some vs=>some (v::vs)
  |_,_=>none
def qS(ops:List Oper)(d:Nat):Bool:=
 ops.any λo=>match o.op with
  | .call c=>(match c.callee with| .builtin .append=>true|_=>false)&&(match(c.args[0]?:Option Operand) with|some (.tmp t)=>t==d|_=>false)
  |_=>false
def Hl:D0->Option D0
 | .val v=>some (.val v)
 | .Nj b=>some (.Nj b)
 | .BE v=>some (.val v)
 | .EI s o=>some (.EI s o)
 |_=>none
def PJ(x:Operand)(v:Aa):List (Nat×D0):=
 match x with
 | .tmp s=>[(s,.val v)]
 |_=>[]
def Ji(C:FC)(U:Bx)(x:Operand)(d:Nat)(take:Bool):Option Ei:=
 match x,DF C U x with
 | .tmp s,some (.box _ _ _)=>some (.pure [(d,.EI s 0)])
 | .const _,some sl=>some (.pure [(d,sl)])
 |x,some (.BE v)=>if take then some (.pure (PJ x v++[(d,.BE v)])) else(Hl (.BE v)).map λs=> .pure [(d,s)]
 |_,some s=>(Hl s).map λs=> .pure [(d,s)]
 |_,none=>none
def To(cs:List Aa):List Nat:=(List.range cs.length).filter λi=>match cs.getD i .nilIface with| .slnil=>true|_=>false
def LC(U:Bx)(ds:List Nat):Bool:=U.all λs=>match s with| .EI s _=> !ds.contains s|_=>true
def Bx.drop(U:Bx)(ds:List Nat):Bx:=match ds with|[]=>U|ds=>U.map λs=>match s with| .EI s o=>if ds.contains s then .undef else .EI s o|s=>s
def RJ(C:FC)(fid:FuncId)(t:TypeId)(v:Aa)(d:Nat):Option Ei:=
 match BJ C.P t with
 |none=>none
 |some n=>if n=0 then none else match C.kind fid d with
  | .Nq=>some (.box n v d)
  | .heap=>some (.alloc n v (some d))
inductive oj where
 |Nq (s off ver:Nat) (cells:List Aa) (BE:List Nat)
 |ptr (p:Aa)
def Ft(C:FC)(U:Bx)(x:Operand):Option oj:=
 match x,DF C U x with
 | .tmp s,some (.box ver cs ow)=>some (.Nq s 0 ver cs ow)
 |_,some (.EI s o)=>match U.at s with
  | .box ver cs ow=>some (.Nq s o ver cs ow)
  |_=>none
 |_,some s=>s.Gt.map .ptr
 |_,none=>none
def CR(U:Bx):Operand->Option (Nat×Aa)
 | .tmp s=>match U.at s with
  | .BE v=>some (s,v)
  |_=>none
 |_=>none
def JK(C:FC)(U:Bx)(x:Operand):Bool:=match DF C U x with|some (.BE _)=>true|_=>false
def J7(C:FC)(U:Bx)(t:TypeId)(x:Operand)(d:Nat)(take:Bool):Option Ei:=
 match EM C.P t,Ft C U x with
 |some n,some (.ptr p)=>some (.load n p (some d))
 |some none,some (.Nq s o ver cs ow)=>
  if o<cs.length then
   let v:=cs.getD o .nilIface
   if ow.contains o&& !(ow.erase o).contains o&&take then some (.pure [(s,.box (ver+1) cs (ow.erase o)),(d,.BE v)])
   else some (.pure [(d,.val v)])
  else none
 |some (some n),some (.Nq _ o _ cs _)=>if o+n<=cs.length then some (.pure [(d,.val (.agg ((cs.drop o).take n)))]) else none
 |_,_=>none
def Ic(C:FC)(U:Bx)(t:TypeId)(x y:Operand):Option Ei:=
 match BJ C.P t,EM C.P t,Ft C U x,Ex C U y with
 |some (n+1),_,some (.ptr p),some v=>some (.store (n+1) p v)
 |some (n+1),some a,some (.Nq s o ver cs ow),some v=>
  if o+(n+1)<=cs.length then
   let BE:=a.isNone&&JK C U y
   some (.LB s o (n+1) v BE (if BE then CR U y else none) ver cs ow)
  else none
 |_,_,_,_=>none
def Q1(P:Program)(t:TypeId)(neg:Bool)(u:TypeDesc):Option Vi:=
 match u with
 | .bool=>some (.beq neg)
 | .struct _=>if P.eqGuardType P.depth t=false then(Nr P 20 t).map (.geq neg) else none
 | .pointer e=>if(BJ P e).getD 0=0 then none else some (.Te neg)
 | .slice _=>some (.Gu neg .sl)
 | .func _ _ _=>some (.Gu neg .fn)
 | .map _ _=>some (.Gu neg .mp)
 |_=>none
def Of(P:Program)(op:BinOp)(t:TypeId):Option Vi:=
 match P.underlying t with
 |some (.int _)=>some (.int op)
 |some .string=>some (.str op)
 |some u=>match op with
  | .eql=>Q1 P t false u
  | .neq=>Q1 P t true u
  |_=>none
 |none=>none
def Q2(p:Vi)(dst:Option Nat):Option (List Aa)->Option Ei
 |some args=>some (.op p args dst false none)
 |none=>none
def IL(P:Program)(t:TypeId):List (Nat×Operand)->Option (List (Nat×Nat))
 |[]=>some []
 |(i,_)::rest=>match P.underlying t with
  |some (.struct fs)=>match fs[i]? with
   |some f=>match BJ P f.type,IL P t rest with
    |some n,some r=>some ((f.offset,n)::r)
    |_,_=>none
   |none=>none
  |some (.array len e)=>if i<len then match BJ P e,IL P t rest with
    |some n,some r=>some ((i*n,n)::r)
    |_,_=>none
   else none
  |_=>none
def KE(P:Program)(t:TypeId):Bool:=
 match P.info? t with
 |some i=>match i.zero with
  |some z=>z.cells.size==i.size
  |none=>false
 |none=>false
def SV(P:Program)(t:TypeId):Bool:=
 match P.underlying t with
 |some (.struct fs)=>fs.toList.all λf=>(BJ P f.type).isSome
 |some (.array _ e)=>(BJ P e).isSome
 |_=>false
def Q3(o:qM)(dst:Option Nat):Option (List Aa)->Option Ei
 |some args=>some (.mem o args dst)
 |none=>none
def O3(C:FC)(fid:FuncId)(U:Bx)(c:Call)(dst:Option Nat):Option Ei:=
 match c.callee with
 | .builtin .len=>match c.argTypes[0]? with
  |some t=>match C.P.underlying t with
   |some .string=>Q2 (.len true) dst (Be C U c.args.toList)
   |some (.slice _)=>Q2 (.len false) dst (Be C U c.args.toList)
   |_=>none
  |none=>none
 | .builtin .append=>match c.argTypes[0]?,c.argTypes[1]?,c.args.toList with
  |some t,some t',[s,x]=>match C.P.underlying t,C.P.underlying t' with
   |some (.slice e),some (.slice _)|some (.slice e),some .string=>match BJ C.P e,IK C.P e with
    |some (n+1),some (b+1)=>if KE C.P e then match Be C U [s,x] with
      |some [v,u]=>if JK C U s then
        (if(dst.map (C.mH fid)).getD false then some (.Ja (n+1) (b+1) v u dst (CR U s))
        else if(dst.map (C.Sq fid)).getD false then some (.FW (n+1) (b+1) v u dst (CR U s))
        else some (.op (.append (n+1) (b+1)) [v,u] dst true (CR U s)))
       else if(dst.map (C.mH fid)).getD false then some (.FJ (n+1) (b+1) v u dst) else none
      |_=>none
     else none
    |_,_=>none
   |_,_=>none
  |_,_,_=>none
 | .builtin .copy=>match c.argTypes[0]?,c.argTypes[1]?,c.args.toList with
  |some t,some t',[s,x]=>match C.P.underlying t,C.P.underlying t' with
   |some (.slice e),some (.slice _)|some (.slice e),some .string=>match BJ C.P e with
    |some (n+1)=>Q3 (.copy (n+1)) dst (Be C U [s,x])
    |_=>none
   |_,_=>none
  |_,_,_=>none
 | .builtin .clear=>match c.argTypes[0]?,c.args.toList with
  |some t,[s]=>match C.P.underlying t with
   |some (.slice e)=>match BJ C.P e,Ge C.P e with
    |some (n+1),some z=>Q3 (.clear (n+1) z.cells) dst (Be C U [s])
    |_,_=>none
   |_=>none
  |_,_=>none
 | .builtin .max=>if c.args.size=2 then Q2 (.J5 true) dst (Be C U c.args.toList) else none
 | .builtin .min=>if c.args.size=2 then Q2 (.J5 false) dst (Be C U c.args.toList) else none
 | .value (.func f)=>if C.My f then(match c.args.toList with
  |[s,i,v]=>if JK C U v then Q3 .mG dst (Be C U [s,i,v]) else none
  |_=>none) else if Ez (C.R_ fid f)=f then(Be C U c.args.toList).map λargs=>if C.jr (C.R_ fid f) then .Co (C.R_ fid f) args dst else .call (C.R_ fid f) args dst else none
 | .value g=>match Ex C U g,Be C U c.args.toList with
  |some g,some args=>some (.FH g args dst)
  |_,_=>none
 |_=>none
def Tp(C:FC)(src dst:TypeId):Option (Option Vi):=
 match C.P.underlying src,C.P.underlying dst with
 |some (.int _),some (.int k)=>some (some (.conv k))
 |some (.int _),some .string=>some (some .i2s)
 |some .string,some .string=>some none
 |some (.slice e),some .string=>match C.P.underlying e with
  |some (.int .u8)=>some (some .Vk)
  |_=>none
 |some .string,some (.slice e)=>match C.P.underlying e,BJ C.P e,IK C.P e with
  |some (.int .u8),some 1,some 1=>some (some .zg)
  |_,_,_=>none
 |_,_=>none
def Fu(C:FC)(U:Bx):List Operand->Option (List Aa×List (Nat×List Aa))
 |[]=>some ([],[])
 |x::xs=>match Fu C U xs with
  |none=>none
  |some (vs,fz)=>match x,DF C U x with
   | .tmp s,some (.box _ cs _)=>if(fz.map (·.1)).contains s then none else some (.Cz cs::vs,(s,cs)::fz)
   |_,some sl=>match sl.Gt with
    |some v=>some (v::vs,fz)
    |none=>none
   |_,none=>none
def Fv(C:FC)(fid:FuncId)(ops:List Oper)(U:Bx)(o:Oper):Option Ei:=
 match o.op with
 | .move x=>match o.dst with
  |some d=>Ji C U x d (qS ops d)
  |none=>none
 | .assign x=>match o.dst with
  |some d=>Ji C U x d true
  |none=>none
 | .pick c a b=>match DF C U c,o.dst with
  |some (.Nj true),some d=>Ji C U a d false
  |some (.Nj false),some d=>Ji C U b d false
  |_,dst=>Q2 .pick dst (Be C U [c,a,b])
 | .alloc t=>match o.dst,Ge C.P t with
  |some d,some z=>match C.kind fid d with
   | .Nq=>if BJ C.P t=some z.cells.length/\z.cells≠[] then some (.pure [(d,.box 0 z.cells (To z.cells))]) else none
   |_=>RJ C fid t z d
  |_,_=>none
 | .box t x=>match o.dst,Ex C U x with
  |some d,some v=>RJ C fid t v d
  |_,_=>none
 | .build t parts=>match Ge C.P t,IL C.P t parts.toList with
  |some z,some ps=>if SV C.P t then Q2 (.B4 z.cells ps) o.dst (Be C U (parts.toList.map (·.2))) else none
  |_,_=>none
 | .buildSlice t len parts=>match C.P.underlying t with
  |some (.slice e)=>match BJ C.P e with
   |some (n+1)=>if parts.toList.map (·.1)=List.range len/\KE C.P e=true then if len=0/\(o.dst.map (C.mH fid)).getD false=true then some (.op (.Fq (n+1)) [] o.dst true none) else(Be C U (parts.toList.map (·.2))).map λargs=> .op (.Cf (n+1)) args o.dst true none else none
   |_=>none
  |_=>none
 | .load t x=>match o.dst with
  |some d=>J7 C U t x d (qS ops d)
  |none=>none
 | .store t x y=>match o.dst with
  |none=>Ic C U t x y
  |some _=>none
 | .nilCheck x=>match x,DF C U x,o.dst with
  | .tmp s,some (.box _ _ _),some d=>some (.pure [(d,.EI s 0)])
  |_,some (.EI s k),some d=>some (.pure [(d,.EI s k)])
  |x,_,dst=>Q2 .KC dst (Be C U [x])
 | .binOp op t x y _=>match Of C.P op t with
  |some p=>Q2 p o.dst (Be C U [x,y])
  |none=>none
 | .unOp op _ x=>Q2 (.un op) o.dst (Be C U [x])
 | .convert src dst x=>match Tp C src dst with
  |some (some .Vk)=>(Ex C U x).map λv=> .Vk v o.dst
  |some (some .zg)=>if(o.dst.map (C.mH fid)).getD false then(Ex C U x).map λv=> .E4 v o.dst else Q2 .zg o.dst (Be C U [x])
  |some (some p)=>Q2 p o.dst (Be C U [x])
  |_=>none
 | .makeFunc fn first captured=>match o.dst,Be C U first.toList,Fu C U captured.toList with
  |some d,some a,some (b,fz)=>some (.Kn fn a b fz d)
  |_,_,_=>none
 | .makeMap _ none=>some (.OC o.dst)
 | .makeSlice t l c=>match C.P.underlying t with
  |some (.slice e)=>match BJ C.P e,IK C.P e,Ge C.P e,Ex C U l,Ex C U c with
   |some (n+1),some (b+1),some z,some l,some c=>some (.make (n+1) (b+1) z.cells l c o.dst)
   |_,_,_,_,_=>none
  |_=>none
 | .insert t m k v| .mapUpdate t m k v=>match C.P.underlying t with
  |some (.map kt _)=>match o.dst,C.P.underlying kt,Be C U [m,k,v] with
   |none,some .string,some [m,k,v]=>some (.JJ m k v)
   |none,some (.int .i64),some [m,k,v]=>some (.mem .oc [m,k,v] none)
   |_,_,_=>none
  |_=>none
 | .lookup t m k ok=>match C.P.underlying t with
  |some (.map kt e)=>match C.P.underlying kt,Ge C.P e,Be C U [m,k] with
   |some .string,some z,some [m,k]=>some (.LX z ok m k o.dst)
   |some (.int .i64),some z,some [m,k]=>some (.mem (.yG z ok) [m,k] o.dst)
   |_,_,_=>none
  |_=>none
 | .slice t x (some lo) (some hi) (some mx)=>match C.P.underlying t with
  |some (.slice e)=>match BJ C.P e with
   |some (n+1)=>Q3 (.bZ (n+1)) o.dst (Be C U [x,lo,hi,mx])
   |_=>none
  |_=>none
 | .makeInterface t x=>match C.P.underlying t with
  |some (.interface _)=>none
  |some _=>Q3 (.P_ t) o.dst (Be C U [x])
  |none=>none
 | .mapEntry t m k=>match C.P.underlying t with
  |some (.map kt e)=>match C.P.underlying kt,Ge C.P e with
   |some (.int .i64),some z=>Q3 (.MB z) o.dst (Be C U [m,k])
   |some .string,some z=>Q3 (.qN z) o.dst (Be C U [m,k])
   |_,_=>none
  |_=>none
 | .entryStore _ m s v=>match o.dst with
  |none=>Q3 .Lw none (Be C U [m,s,v])
  |some _=>none
 | .slice t x lo hi none=>match C.P.underlying t with
  |some .string=>Q2 (.PI 0 true lo.isSome hi.isSome) o.dst (Be C U (x::(lo.toList++hi.toList)))
  |some (.slice e)=>match BJ C.P e with
   |some (n+1)=>if(o.dst.map (C.mH fid)).getD false then Q3 (.mF (n+1) lo.isSome hi.isSome) o.dst (Be C U (x::(lo.toList++hi.toList)))
    else Q2 (.PI (n+1) false lo.isSome hi.isSome) o.dst (Be C U (x::(lo.toList++hi.toList)))
   |_=>none
  |_=>none
 | .fieldAddr t x f=>match Hk C.P t f,o.dst with
  |some (off,_),some d=>match x,DF C U x with
   | .tmp s,some (.box _ _ _)=>some (.pure [(d,.EI s off)])
   |_,some (.EI s k)=>some (.pure [(d,.EI s (k+off))])
   |x,_=>Q2 (.FV off) (some d) (Be C U [x])
  |_,_=>none
 | .field t x f=>match Hk C.P t f with
  |some (off,g)=>Q2 (.part off g) o.dst (Be C U [x])
  |none=>none
 | .indexAddr t x i=>match C.P.underlying t with
  |some (.slice e)=>match BJ C.P e with
   |some (n+1)=>Q2 (.Gm (n+1)) o.dst (Be C U [x,i])
   |_=>none
  |some (.array len e)=>match BJ C.P e with
   |some (n+1)=>if len<=1 then none else Q2 (.Tg len (n+1)) o.dst (Be C U [x,i])
   |_=>none
  |_=>none
 | .index t x i=>match C.P.underlying t with
  |some .string=>Q2 .YT o.dst (Be C U [x,i])
  |some (.array len e)=>match BJ C.P e,EM C.P e with
   |some (n+1),some g=>Q2 (.od len (n+1) g) o.dst (Be C U [x,i])
   |_,_=>none
  |_=>none
 | .extract x i=>Q2 (.ext i) o.dst (Be C U [x])
 | .call c=>O3 C fid U c o.dst
 |_=>none
def Bx.DR(U:Bx):List (Nat×D0)->Bx
 |[]=>U
 |(s,x)::ws=>Bx.DR (U.set s x) ws
def Bx.put(U:Bx)(dst:Option Nat)(x:D0):Bx:=
 match dst with
 |some d=>U.set d x
 |none=>U
def Bx.Da(U:Bx):Option (Nat×Aa)->Bx
 |some (s,v)=>U.set s (.val v)
 |none=>U
def Tq(n:Nat)(cs:List Aa):List Aa:=(List.range n).map λi=>cs.getD i .nilIface
def Tr(cs:List Aa)(off n:Nat)(vs:List Aa):List Aa:=cs.take off++vs++cs.drop (off+n)
def PK(owned:List Nat)(off n:Nat)(BE:Bool):List Nat:=
 let rest:=owned.filter λo=> !(off<=o&&o<off+n)
 if BE then off::rest else rest
def Ei.LD(C:FC)(U:Bx)(K:Bx->IT):Ei->IT
 | .pure ws=>K (U.DR ws)
 | .op p args dst BE e=> .op p args λv=>K ((U.Da e).put dst (if BE then .BE v else .val v))
 | .box n v d=> .cells n v λcs=>K (U.set d (.box 0 (Tq n cs) []))
 | .Kn fn a b fz d=>K ((U.DR (fz.map λ(s,cs)=>(s,.val (.Cz cs)))).set d (.val (.func fn a b)))
 | .LB s off n v BE e ver cells owned=> .cells n v λvs=>K ((U.Da e).set s (.box (ver+1) (Tr cells off n (Tq n vs)) (PK owned off n BE)))
 | .load n p dst=> .load n p λv=>K (U.put dst (.val v))
 | .store n p v=> .store n p v (K U)
 | .alloc n v dst=> .alloc n v λp=>K (U.put dst (.val p))
 | .call f args dst=> .call f args λr=>K (U.put dst (if C.IJ f then .BE r else .val r))
 | .FH g args dst=> .FH g args λr=>K (U.put dst (.val r))
 | .Co f args dst=> .Co f args λr=>K (U.put dst (.val r))
 | .OC dst=> .OC λm=>K (U.put dst (.val m))
 | .JJ m k v=> .JJ m k v (K U)
 | .LX z ok m k dst=> .LX z ok m k λv=>K (U.put dst (.val v))
 | .make z b zero l c dst=> .make z b zero l c λv=>K (U.put dst (.val v))
 | .Ja z b s x dst e=> .Ja z b s x λv=>K ((U.Da e).put dst (.val v))
 | .FJ z b s x dst=> .FJ z b s x λv=>K (U.put dst (.val v))
 | .FW z b s x dst e=> .FW z b s x λv=>K ((U.Da e).put dst (.BE v))
 | .E4 s dst=> .E4 s λv=>K (U.put dst (.val v))
 | .Vk v dst=> .Th v λv=> .op .Vk [v] λu=>K (U.put dst (.val u))
 | .mem o args dst=> .mem o args λv=>K (U.put dst (if o.Q_ then .undef else .val v))
def Ei.news:Ei->List Nat
 | .pure ws=>ws.filterMap λ(s,x)=>match x with| .box 0 _ _=>some s|_=>none
 | .box _ _ d=>[d]
 | .Kn _ _ _ fz _=>fz.map (·.1)
 |_=>[]
inductive S_ where
 |LY (run:Bool)
 |ask (cB:Nat) (v:Aa) (want:Bool)
 |om
def Hy(ops:List Oper)(U:Bx)(o:Oper):S_:=
 match o.guard with
 |none=> .LY true
 |some (j,want)=>match(ops[j]?).bind (·.dst) with
  |some s=>match U.at s with
   | .Nj b=> .LY (b==want)
   | .val v=> .ask s v want
   | .skip=> .LY false
   |_=> .om
  |none=> .om
def qT(C:FC)(fid:FuncId)(ops:List Oper)(U:Bx)(o:Oper)(K:Bx->IT):IT:=
 match Fv C fid ops U o with
 |some r=>r.LD C (U.drop r.news) K
 |none=> .fail
def Q4(C:FC)(fid:FuncId)(ops:List Oper)(U:Bx)(o:Oper)(K:Bx->IT):IT:=
 match Hy ops U o with
 | .LY true=>qT C fid ops U o K
 | .LY false=>K (U.put o.dst .skip)
 | .ask s v want=>
  let t:=if want then qT C fid ops (U.set s (.Nj true)) o K else K (Bx.put (U.set s (.Nj true)) o.dst .skip)
  let e:=if want then K (Bx.put (U.set s (.Nj false)) o.dst .skip) else qT C fid ops (U.set s (.Nj false)) o K
  .AX v t e
 | .om=> .fail
def Q5:FuncId->Bool
 |_=>false
def PL(C:FC)(U:Bx)(o:Oper):List (Nat×List Aa):=
 match o.op with
 | .call c=>(match c.callee with
  | .value (.func f)=>if Q5 f then(match Fu C U c.args.toList with|some (_,fz)=>fz|none=>[]) else[]
  |_=>[])
 |_=>[]
def oo(C:FC)(U:Bx)(o:Oper):Bx:=(U.drop ((PL C U o).map (·.1))).DR ((PL C U o).map λ(s,cs)=>(s,.val (.Cz cs)))
def iG(C:FC)(fid:FuncId)(ops:List Oper):List Oper->Bx->(Bx->IT)->IT
 |[],U,K=>K U
 |o::rest,U,K=>Q4 C fid ops (oo C U o) o λU=>iG C fid ops rest U K
end Go.Am
end
section
namespace Go.Am
def Oper.Sr(o:Oper):List Nat:=o.after.toList.filterMap λe=>if Region.binds .any e then some e.on else none
def zh(i:Nat):Nat:=2^i
def JL(Dq:List Nat):List Oper->List Nat
 |[]=>Dq
 |o::rest=>JL (Dq++[(Oper.Sr o).foldl (λm e=>m|||zh e|||Dq.getD e 0) 0]) rest
def Ts(ops:List Oper):List Nat:=JL [] ops
def D4(an:List Nat)(i j:Nat):Bool:=(an.getD j 0).testBit i
def js(o:Oper):Bool:=
 match o.op with
 | .call c=>(match c.callee with| .builtin .copy| .builtin .clear=>true| .builtin _=>false|_=>true)
 | .store _ _ _| .insert _ _ _ _| .mapUpdate _ _ _ _| .makeMap _ _| .makeSlice _ _ _| .mapEntry _ _ _| .entryStore _ _ _ _=>true
 |_=>false
def Tt(all:List Oper)(Dq:List Nat):List Oper->List Nat
 |[]=>Dq
 |o::rest=>Tt all (Dq++[(Oper.Sr o).foldl (λm e=>Nat.max m (Dq.getD e 0+(match all[e]? with|some x=>if js x then 1 else 0|none=>0))) 0]) rest
def yH(ops:List Oper):List Nat:=
 let st:=Tt ops [] ops
 let idx:=List.range ops.length
 let PE:=λi=>match ops[i]? with|some o=>js o|none=>false
 (List.range (ops.length+1)).flatMap λs=>(idx.filter λi=>st.getD i 0==s&& !PE i)++(idx.filter λi=>st.getD i 0==s&&PE i)
structure FP where
 rs:List Nat
 wf:List Nat
 hl:Bool
 PE:Bool
 news:List Nat
 lr:List Nat
 Q6:Bool
 deriving Inhabited
def IM(xs:List Operand):List Nat:=xs.filterMap λ| .tmp t=>some t|_=>none
def MC(C:FC)(U:Bx)(x:Operand):Option Nat:=
 match Ft C U x with
 |some (.Nq s _ _ _ _)=>some s
 |_=>none
def GV(C:FC)(U:Bx)(o:Oper):List Nat:=
 match o.op with
 | .load _ x=>(MC C U x).toList
 | .store _ x _=>(MC C U x).toList
 | .makeFunc _ _ captured=>IM captured.toList
 |_=>[]
def Ei.wf:Ei->List Nat
 | .pure ws=>ws.map (·.1)
 | .op _ _ dst _ a=>dst.toList++(a.map (·.1)).toList
 | .box _ _ d=>[d]
 | .Kn _ _ _ fz d=>d::fz.map (·.1)
 | .LB s _ _ _ _ a _ _ _=>s::(a.map (·.1)).toList
 | .load _ _ dst| .alloc _ _ dst| .call _ _ dst| .FH _ _ dst| .Co _ _ dst| .OC dst| .LX _ _ _ _ dst| .make _ _ _ _ _ dst| .E4 _ dst| .Vk _ dst| .FJ _ _ _ _ dst| .mem _ _ dst=>dst.toList
 | .Ja _ _ _ _ dst a| .FW _ _ _ _ dst a=>dst.toList++(a.map (·.1)).toList
 | .store _ _ _| .JJ _ _ _=>[]
def Ei.hl:Ei->Bool
 | .load _ _ _| .LX _ _ _ _ _=>true
 |_=>false
def Ei.PE:Ei->Bool
 | .store _ _ _| .alloc _ _ _| .call _ _ _| .FH _ _ _| .OC _| .JJ _ _ _| .make _ _ _ _ _ _| .Ja _ _ _ _ _ _| .E4 _ _| .Vk _ _| .FJ _ _ _ _ _| .FW _ _ _ _ _ _| .mem _ _ _=>true
 |_=>false
def EU(ops:List Oper)(o:Oper):List Nat:=
 match o.guard with
 |none=>[]
 |some (j,_)=>((ops[j]?).bind (·.dst)).toList
def SW(xs:List D0):List Nat:=xs.filterMap λ| .EI t _=>some t|_=>none
def Ei.iH:Ei->List Nat
 | .pure ws=>SW (ws.map (·.2))
 |_=>[]
def Ei.Q6(U:Bx)(r:Ei):Bool:=
 LC U r.news&&match r with
  | .load _ _ (some d)=>decide (d<U.length)
  | .load _ _ none| .LX _ _ _ _ _| .Kn _ _ _ (_::_) _=>false
  |_=>true
def Ss(C:FC)(ops:List Oper)(U:Bx)(o:Oper)(r:Option Ei):FP:=
 match r with
 |none=>{rs:=EU ops o,wf:=o.dst.toList,hl:=false,PE:=false,news:=[],lr:=SW (o.dst.toList.map U.at),Q6:=true}
 |some r=>{rs:=EU ops o++IM o.op.operands.toList++GV C U o,wf:=r.wf++o.dst.toList,hl:=r.hl,PE:=r.PE,news:=r.news,lr:=SW ((r.wf++o.dst.toList).map U.at)++r.iH,Q6:=r.Q6 U}
def RK(a b:List Nat):Bool:=a.any λx=>b.contains x
def FP.apart(x y:FP):Bool:= !RK x.wf (y.rs++y.wf)&& !RK y.wf x.rs&& !RK x.lr y.news&& !RK y.lr x.news
def O4(x y:FP):Bool:=x.Q6&&y.Q6&&x.apart y&& !(x.PE&&y.PE)&& !(x.PE&&y.hl)
def Tu(n:Nat)(an:List Nat)(a:List (Nat×FP)):Bool:=
 go a&&(List.range n).all (λi=>(a.map (·.1)).contains i)
where
 go:List (Nat×FP)->Bool
  |[]=>true
  |(i,f)::rest=>rest.all (λ(j,g)=>i != j&& !D4 an j i&&(D4 an i j||O4 f g))&&go rest
structure Jc where
 idx:Nat
 n:Option Nat
 p:Aa
 v:Aa
def PM(an:List Nat)(i:Nat):List Jc->IT->IT
 |[],t=>t
 |f::fs,t=>if D4 an f.idx i then PM an i fs t else .load f.n f.p λv=> .same f.v v (PM an i fs t)
def Lc(i:Nat)(r:Ei)(U:Bx)(fl:List Jc):List Jc:=
 match r with
 | .load n p (some d)=>match U.at d with
  | .val v=>{idx:=i,n,p,v}::fl
  |_=>fl
 |_=>fl
def PO(ops:List Oper)(i:Nat):Bool:=ops.any λo=>match o.guard with|some (j,_)=>j==i|none=>false
def iI(d:Option Nat)(U:Bx)(K:Bx->IT):IT:=
 match d with
 |none=>K U
 |some d=>match U.at d with
  | .val v=> .AX v (K (U.set d (.Nj true))) (K (U.set d (.Nj false)))
  |_=>K U
def O5(C:FC)(fid:FuncId)(ops:List Oper)(an:List Nat):List Nat->List (Nat×FP)->List Jc->Bx->(Bx->IT)->IT
 |[],a,_,U,K=>if Tu ops.length an a.reverse then K U else .fail
 |i::rest,a,fl,U,K=>
  match ops[i]? with
  |none=> .fail
  |some o=>match Hy ops U o with
   | .LY true=>match Fv C fid ops U o with
    |none=> .fail
    |some r=>r.LD C (U.drop r.news) λc=>
     let next:=iI (if PO ops i then o.dst else none) c λb=>O5 C fid ops an rest ((i,Ss C ops U o (some r))::a) (Lc i r c fl) b K
     if r.PE then PM an i fl next else next
   | .LY false=>O5 C fid ops an rest ((i,Ss C ops U o none)::a) fl (U.put o.dst .skip) K
   |_=> .fail
def D6(ops:List Oper)(o:Oper):List Nat:=
 o.dst.toList++match o.op with
  | .move (.tmp s)=>(match o.dst with|some d=>if qS ops d then[s] else[]|none=>[])
  | .assign (.tmp s)=>[s]
  | .store _ _ (.tmp s)=>[s]
  | .call c=>(match c.callee with| .builtin .append=>IM c.args.toList| .value (.func f)=>if Q5 f then IM c.args.toList else[]|_=>[])
  | .makeFunc _ _ captured=>IM captured.toList
  |_=>[]
def CJ:Code->List Nat
 | .region _ ops _=>ops.toList.flatMap (D6 ops.toList)
 | .seq a b=>CJ a++CJ b
 | .cond _ a b=>CJ a++CJ b
 | .block _ b=>CJ b
 | .loop b=>CJ b
 | .scope b=>CJ b
 |_=>[]
def BY:Code->List Nat
 | .region _ ops _=>ops.toList.flatMap (EU ops.toList)
 | .seq a b=>BY a++BY b
 | .cond (.tmp s) a b=>s::(BY a++BY b)
 | .cond _ a b=>BY a++BY b
 | .block _ b=>BY b
 | .loop b=>BY b
 | .scope b=>BY b
 |_=>[]
def Bx.clear(U:Bx):List Nat->Bx
 |[]=>U
 |s::ss=>Bx.clear (U.set s .undef) ss
def FY:Code->Option Nat
 | .region id _ _=>some id
 | .seq a b=>(FY a).orElse λ_=>FY b
 | .cond _ a b=>(FY a).orElse λ_=>FY b
 | .block _ b| .loop b| .scope b=>FY b
 |_=>none
def Tv(U:Bx):List (Nat×Sh)->Option (List Aa)
 |[]=>some []
 |(s,a)::l=>
  let v:=match a,U.at s with
   | .val,x=>x.Gt
   | .BE,.BE v=>some v
   | .box n ow,.box _ cs Mz=>if cs.length=n/\ow.all (Mz.contains ·) then some (.agg cs) else none
   |_,_=>none
  match v,Tv U l with
  |some v,some vs=>some (v::vs)
  |_,_=>none
def VV:D0->Nat
 | .box ver _ _=>ver
 |_=>0
def If(vs:List Aa):List (Nat×Sh)->Nat->Bx->(Bx->IT)->IT
 |[],_,U,K=>K U
 |(s,.val)::l,i,U,K=>If vs l (i+1) (U.set s (.val (vs.getD i .nilIface))) K
 |(s,.BE)::l,i,U,K=>If vs l (i+1) (U.set s (.BE (vs.getD i .nilIface))) K
 |(s,.box n ow)::l,i,U,K=> .cells n (vs.getD i .nilIface) λcs=>If vs l (i+1) (U.set s (.box (VV (U.at s)+1) (Tq n cs) ow)) K
def cC(U:Bx)(a:Bx)(l:List (Nat×Sh)):Bool:=
 (List.range U.length).all λs=>match U.at s with
  | .box ver _ _=>(l.map (·.1)).contains s||(match a.at s with| .box Fw _ _=>Fw==ver|_=>false)
  | .EI _ _=>(l.map (·.1)).contains s||(match a.at s with| .EI _ _=>true|_=>false)
  |_=>true
def Q7(b:Bx)(l:List (Nat×Sh))(x:Fs)(a:Bx):IT:=
 if cC b a l then match Tv a l with
  |some vs=> .ret x vs
  |none=> .fail
 else .fail
def qU(l:List (Nat×Sh))(ws:List Nat)(U:Bx):Bool:=l.all λ(s,_)=>ws.contains s||(match U.at s with| .box _ _ _=>true|_=>false)
def Xd(ops:List Oper):Bool:=ops.zipIdx.all λ(o,i)=>(Oper.Sr o).all λe=>decide (e<i)
def PQ(C:FC)(fid:FuncId)(ops:List Oper)(draw:Bool)(U:Bx)(K:Bx->IT):IT:=
 if draw then(if Xd ops then O5 C fid ops (Ts ops) (yH ops) [] [] U K else .fail) else iG C fid ops ops U K
def Xe(key:Nat)(U:Bx)(ws:List Nat)(l:List (Nat×Sh))(t:(Fs->Bx->IT)->IT)(K:Fs->Bx->IT):IT:=
 let b:=U.clear ws
 if qU l ws U then .Fj key (t λx a=>Q7 b l x a) λx vs=>If vs l 0 b λa=>K x a else .fail
def jt(K:Fs->Bx->IT):Fs->Bx->IT
 | .normal,_=> .fail
 | .exit i,U=>K (.exit i) U
 | .ret,U=>K .ret U
def Fx(C:FC)(fid:FuncId):Code->Bx->(Fs->Bx->IT)->IT
 | .skip,U,K=>K .normal U
 | .region id ops draw,U,K=>match C.jq fid id with
  |none=>PQ C fid ops.toList draw U (K .normal)
  |some l=>Xe (200000+id) U (ops.toList.flatMap (D6 ops.toList)++ops.toList.flatMap (EU ops.toList)) l (λK=>PQ C fid ops.toList draw U (K .normal)) K
 | .seq a b,U,K=>Fx C fid a U λx d=>match x with
  | .normal=>Fx C fid b d K
  | .exit i=>K (.exit i) d
  | .ret=>K .ret d
 | .cond c a b,U,K=>match c,DF C U c with
  |_,some (.Nj true)=>Fx C fid a U K
  |_,some (.Nj false)=>Fx C fid b U K
  | .tmp s,some (.val v)=>match C.jo fid s with
   |none=> .AX v (Fx C fid a (U.set s (.Nj true)) K) (Fx C fid b (U.set s (.Nj false)) K)
   |some l=>Xe (100000+s) U (s::(CJ a++CJ b++BY a++BY b)) l (λK=> .AX v (Fx C fid a (U.set s (.Nj true)) K) (Fx C fid b (U.set s (.Nj false)) K)) K
  |_,_=> .fail
 | .block id b,U,K=>Fx C fid b U λx d=>match x with
  | .normal=>K .normal d
  | .exit i=>if i=id then K .normal d else K (.exit i) d
  | .ret=>K .ret d
 | .loop b,U,K=>
  let l:=C.og fid ((FY b).getD 0)
  let ws:=CJ b++BY b
  let f:=U.clear ws
  if qU l ws U then match Tv U l with
   |none=> .fail
   |some init=> .loop ((FY b).getD 0) init (λvs=>If vs l 0 f λe=>Fx C fid b e λx d=>Q7 f l x d) λx vs=>If vs l 0 f λd=>jt K x d
  else .fail
 | .exit id,U,K=>K (.exit id) U
 | .ret,U,K=>K .ret U
 | .scope b,U,K=>Fx C fid b U K
 | .label _,U,K=>K .normal U
 |_,_,_=> .fail
def FQ(C:FC)(U:Bx):List ResultVar->List Aa->(List Aa->IT)->IT
 |[],Dq,K=>K Dq.reverse
 | .tmp t::rs,Dq,K=>match(U.at t).Gt with
  |some v=>FQ C U rs (v::Dq) K
  |none=> .fail
 | .cell a t::rs,Dq,K=>match EM C.P t,Ft C U (.tmp a) with
  |some none,some (.Nq _ o _ cs _)=>if o<cs.length then FQ C U rs (cs.getD o .nilIface::Dq) K else .fail
  |some (some n),some (.Nq _ o _ cs _)=>if o+n<=cs.length then FQ C U rs (.agg ((cs.drop o).take n)::Dq) K else .fail
  |some n,some (.ptr p)=> .load n p λv=>FQ C U rs (v::Dq) K
  |_,_=> .fail
def Og(U:Bx):List ResultVar->Bool
 |[.tmp t]=>match U.at t with| .BE _=>true|_=>false
 |_=>false
def iJ(C:FC)(U:Bx):List (Nat×Nat)->IT->IT
 |[],t=>t
 |(s,off)::l,t=>match(U.at s).Gt with
  |some p=> .HX off p (iJ C U l t)
  |none=> .fail
def Ns:List Aa->List Aa->(List Aa->IT)->IT
 |[],Dq,K=>K Dq.reverse
 |v::vs,Dq,K=> .Th v λv=>Ns vs (v::Dq) K
def RL:List Aa->IT
 |[v]=> .ret .ret [v]
 |vs=> .ret .ret [.tuple vs]
def YX(C:FC)(fid:FuncId)(fn:Func)(U:Bx):IT:=
 if C.IJ fid&& !Og U fn.results.toList then .fail
 else iJ C U (C.qR fid) (FQ C U fn.results.toList [] λvs=>if C.qQ fid then Ns vs [] RL else RL vs)
def qV(C:FC)(fid:FuncId)(fn:Func)(args:List Aa):IT:=
 match fn.body with
 |none=> .fail
 |some c=>Fx C fid c (args.map .val++List.replicate (fn.ntmps-args.length) .undef) λx U=>match x with
  | .normal=>YX C fid fn U
  | .exit _=> .fail
  | .ret=>YX C fid fn U
def T_(C:FC)(fid:FuncId)(args:List Aa):IT:=
 match C.P.funcs[Ez fid]? with
 |some fn=>if fn.name== "runtime.NumGoroutine" then .fail else qV C fid fn args
 |none=> .fail
def B2(C:FC)(fid:FuncId)(args:List Aa):IT:=
 match C.oh fid with
 |some p=>p args
 |none=>T_ C fid args
abbrev g(l:List Aa)(i:Nat):Aa:=l.getD i .nilIface
abbrev I(n:Int):Aa:= .int .i64 n
abbrev S(s:Aq):Aa:= .str s
abbrev tt:Aa:= .bool true
abbrev ff:Aa:= .bool false
abbrev FC.run(C:FC):Nat->IT->Ah->Option Jb:=IT.run (B2 C)
end Go.Am
end
end
section
namespace Go.Am
def IT.Jj{fn:FuncId->List Aa->IT}{rec U_:IT->Ah->Option Jb}(hr:∀t h r,rec t h=some r->U_ t h=some r):
  ∀(t:IT) (h:Ah) (r:Jb),IT.step fn rec t h=some r->IT.step fn U_ t h=some r:=by
 intro t;induction t with
 |ret x vs=>intro h r d;simpa[IT.step] using d
 |fail=>intro h r d;simp[IT.step] at d
 |op o args k ih=>
  intro h r d;simp only[IT.step] at d⊢;split at d;.exact ih _ _ _ d
  .cases d
 |cells n v k ih=>
  intro h r d;simp only[IT.step] at d⊢;split at d;.rename_i hc;rw[Ad hc];exact ih _ _ _ d
  .cases d
 |AX c t e i q=>
  intro h r d;simp only[IT.step] at d⊢;split at d;.exact i _ _ d
  .exact q _ _ d
  .cases d
 |load n p k ih=>
  intro h r d;simp only[IT.step] at d⊢;split at d;.exact ih _ _ _ d
  .cases d
 |store n p v k ih=>
  intro h r d;simp only[IT.step] at d⊢;split at d;.exact ih _ _ d
  .cases d
 |alloc n v k ih=>
  intro h r d;simp only[IT.step] at d⊢;split at d;.exact ih _ _ _ d
  .cases d
 |call f args k ih=>
  intro h r d;simp only[IT.step] at d⊢;split at d;.rename_i h1;rw[hr _ _ _ h1];exact ih _ _ _ d
  .cases d
 |FH g args k ih=>
  intro h r d;simp only[IT.step] at d⊢;split at d
  .rename_i f a ht;split at d;.rename_i h1;simp only[hr _ _ _ h1];exact ih _ _ _ d
   .cases d
  .cases d
 |Co f args k ih=>
  intro h r d;simp only[IT.step] at d⊢;split at d
  .rename_i HV;rw[Ad HV];split at d
   .rename_i h1;rw[hr _ _ _ h1];split at d;.rename_i ju;simp only[ju,BH];exact ih _ _ _ d
    .cases d
   .cases d
  .cases d
 |loop key init body k l j=>
  intro h r d;simp only[IT.step] at d⊢;split at d;.rename_i h1;rw[l _ _ _ h1];exact hr _ _ _ d
  .rename_i x vs h1 hne hx;rw[l _ _ _ hx];cases x<;>first|exact j _ _ _ _ d|exact absurd rfl hne
  .cases d
 |Fj key t k i j=>
  intro h r d;simp only[IT.step] at d⊢;split at d;.rename_i h1;rw[i _ _ h1];exact j _ _ _ _ d
  .cases d
 |same a b k ih=>
  intro h r d;simp only[IT.step] at d⊢;split at d;.rename_i hc;rw[Ad hc];exact ih _ _ d
  .cases d
 |OC k ih=>intro h r d;simp only[IT.step] at d⊢;exact ih _ _ _ d
 |JJ m key v k ih=>
  intro h r d;simp only[IT.step] at d⊢;split at d;.exact ih _ _ d
  .cases d
 |LX z ok m key k ih=>
  intro h r d;simp only[IT.step] at d⊢;split at d;.exact ih _ _ _ d
  .cases d
 |make size bytes zero len cap k ih=>
  intro h r d;simp only[IT.step] at d⊢;split at d;.exact ih _ _ _ d
  .cases d
 |Ja size bytes s x k ih=>
  intro h r d;simp only[IT.step] at d⊢;split at d;.exact ih _ _ _ d
  .cases d
 |E4 s k ih=>
  intro h r d;simp only[IT.step] at d⊢;split at d;.exact ih _ _ _ d
  .cases d
 |Th v k ih=>
  intro h r d;simp only[IT.step] at d⊢;split at d;.exact ih _ _ _ d
  .cases d
 |HX off p k ih=>
  intro h r d;simp only[IT.step] at d⊢;split at d;.exact ih _ _ d
  .cases d
 |FJ size bytes s x k ih=>
  intro h r d;simp only[IT.step] at d⊢;split at d;.exact ih _ _ _ d
  .cases d
 |FW size bytes s x k ih=>
  intro h r d;simp only[IT.step] at d⊢;split at d;.exact ih _ _ _ d
  .cases d
 |mem o args k ih=>
  intro h r d;simp only[IT.step] at d⊢;split at d;.exact ih _ _ _ d
  .cases d
 |qO f args k ih=>
  intro h r d;simp only[IT.step] at d⊢;split at d
  .rename_i h1;rw[hr _ _ _ h1];split at d;.rename_i ju;simp only[ju,BH];exact ih _ _ _ d
   .cases d
  .cases d
def IT.qW{fn:FuncId->List Aa->IT}:∀(n:Nat) (t:IT) (h:Ah) (r:Jb),IT.run fn n t h=some r->IT.run fn (n+1) t h=some r:=by
 intro n;induction n with
 |zero=>intro t h r a;simp[IT.run] at a
 |succ n ih=>intro t h r a;exact IT.Jj (λt h r=>ih t h r) t h r a
def IT.HN{fn:FuncId->List Aa->IT}{n m:Nat}(hnm:n<=m){t:IT}{h:Ah}{r:Jb}(a:IT.run fn n t h=some r):IT.run fn m t h=some r:=by
 induction hnm with
 |refl=>exact a
 |step _ ih=>exact IT.qW _ _ _ _ ih
abbrev IN:=Fs->List Aa->Ah->Prop
def W(C:FC)(t:IT)(Q:IN)(h:Ah):Prop:=∃n x vs h',C.run n t h=some (x,vs,h')/\Q x vs h'
section
variable{C:FC}{Q:IN}{h:Ah}
def W.mono{t:IT}{Q':IN}(hw:W C t Q h)(hq:∀x vs h',Q x vs h'->Q' x vs h'):W C t Q' h:=
 let⟨n,x,vs,h',hr,q⟩:=hw;⟨n,x,vs,h',hr,hq _ _ _ q⟩
def V_{x:Fs}{vs:List Aa}(hq:Q x vs h):W C (.ret x vs) Q h:=⟨1,x,vs,h,rfl,hq⟩
def CF{t:IT}(a:∃n x vs h',IT.step (B2 C) (C.run n) t h=some (x,vs,h')/\Q x vs h'):W C t Q h:=
 let⟨n,x,vs,h',hr,q⟩:=a;⟨n+1,x,vs,h',hr,q⟩
def W.succ{t:IT}(a:W C t Q h):∃n x vs h',IT.step (B2 C) (C.run n) t h=some (x,vs,h')/\Q x vs h':=by
 obtain⟨n,x,vs,h',hr,q⟩:=a;cases n with
 |zero=>simp[FC.run,IT.run] at hr
 |succ n=>exact⟨n,x,vs,h',hr,q⟩
def aBw{o:Vi}{args:List Aa}{k:Aa->IT}{v:Aa}(hv:Ay o args=some v)(hw:W C (k v) Q h):W C (.op o args k) Q h:=by obtain⟨n,x,vs,h',hr,q⟩:=hw.succ;exact CF ⟨n,x,vs,h',by simp only[IT.step,hv];exact hr,q⟩
def yI{n:Nat}{v:Aa}{k:List Aa->IT}(hv:v.cells.length=n)(hw:W C (k v.cells) Q h):W C (.cells n v k) Q h:=by obtain⟨m,x,vs,h',hr,q⟩:=hw.succ;exact CF ⟨m,x,vs,h',by simp only[IT.step,hv,BH];exact hr,q⟩
def jv{b:Bool}{t e:IT}(ht:b=true->W C t Q h)(he:b=false->W C e Q h):W C (.AX (.bool b) t e) Q h:=by
 cases b with
 |true=>obtain⟨m,x,vs,h',hr,q⟩:=(ht rfl).succ;exact CF ⟨m,x,vs,h',by simp only[IT.step];exact hr,q⟩
 |false=>obtain⟨m,x,vs,h',hr,q⟩:=(he rfl).succ;exact CF ⟨m,x,vs,h',by simp only[IT.step];exact hr,q⟩
def oq{n:Option Nat}{p v:Aa}{k:Aa->IT}(hv:Bq h n p=some v)(hw:W C (k v) Q h):W C (.load n p k) Q h:=by obtain⟨m,x,vs,h',hr,q⟩:=hw.succ;exact CF ⟨m,x,vs,h',by simp only[IT.step,hv];exact hr,q⟩
def yJ{n:Nat}{p v:Aa}{k:IT}{h1:Ah}(hv:CM h n p v=some h1)(hw:W C k Q h1):W C (.store n p v k) Q h:=by obtain⟨m,x,vs,h',hr,q⟩:=hw.succ;exact CF ⟨m,x,vs,h',by simp only[IT.step,hv];exact hr,q⟩
def yK{n:Nat}{v:Aa}{k:Aa->IT}(hv:v.cells.length=n)(hw:W C (k (.ptr (some (h.length,0)))) Q (h++[.cells v.cells])):W C (.alloc n v k) Q h:=by obtain⟨m,x,vs,h',hr,q⟩:=hw.succ;exact CF ⟨m,x,vs,h',by simp only[IT.step,Xb,hv,BH];exact hr,q⟩
def ot{a b:Aa}{k:IT}(hv:Aa.beq a b=true)(hw:W C k Q h):W C (.same a b k) Q h:=by obtain⟨m,x,vs,h',hr,q⟩:=hw.succ;exact CF ⟨m,x,vs,h',by simp only[IT.step,hv,BH];exact hr,q⟩
def ou{k:Aa->IT}(hw:W C (k (.map (some h.length))) Q (h++[.map []])):W C (.OC k) Q h:=by obtain⟨m,x,vs,h',hr,q⟩:=hw.succ;exact CF ⟨m,x,vs,h',by simp only[IT.step];exact hr,q⟩
def ov{m key v:Aa}{k:IT}{h1:Ah}(hv:RH h m key v=some h1)(hw:W C k Q h1):W C (.JJ m key v k) Q h:=by obtain⟨n,x,vs,h',hr,q⟩:=hw.succ;exact CF ⟨n,x,vs,h',by simp only[IT.step,hv];exact hr,q⟩
def oz{z:Aa}{ok:Bool}{m key v:Aa}{k:Aa->IT}(hv:RI h z ok m key=some v)(hw:W C (k v) Q h):W C (.LX z ok m key k) Q h:=by obtain⟨n,x,vs,h',hr,q⟩:=hw.succ;exact CF ⟨n,x,vs,h',by simp only[IT.step,hv];exact hr,q⟩
def Xf{size bytes:Nat}{zero:List Aa}{len cap v:Aa}{k:Aa->IT}{h1:Ah}(hv:OM h size bytes zero len cap=some (h1,v))(hw:W C (k v) Q h1):W C (.make size bytes zero len cap k) Q h:=by obtain⟨n,x,vs,h',hr,q⟩:=hw.succ;exact CF ⟨n,x,vs,h',by simp only[IT.step,hv];exact hr,q⟩
def yL{size bytes:Nat}{s x v:Aa}{k:Aa->IT}{h1:Ah}(hv:Ly h size bytes s x=some (h1,v))(hw:W C (k v) Q h1):W C (.Ja size bytes s x k) Q h:=by obtain⟨n,x,vs,h',hr,q⟩:=hw.succ;exact CF ⟨n,x,vs,h',by simp only[IT.step,hv];exact hr,q⟩
def cD{s v:Aa}{k:Aa->IT}{h1:Ah}(hv:Ir h s=some (h1,v))(hw:W C (k v) Q h1):W C (.E4 s k) Q h:=by obtain⟨n,x,vs,h',hr,q⟩:=hw.succ;exact CF ⟨n,x,vs,h',by simp only[IT.step,hv];exact hr,q⟩
def W_{u v:Aa}{k:Aa->IT}{h1:Ah}(hv:LA h u=some (h1,v))(hw:W C (k v) Q h1):W C (.Th u k) Q h:=by obtain⟨n,x,vs,h',hr,q⟩:=hw.succ;exact CF ⟨n,x,vs,h',by simp only[IT.step,hv];exact hr,q⟩
def yM{off:Nat}{p:Aa}{k:IT}{h1:Ah}(hv:KD h off p=some h1)(hw:W C k Q h1):W C (.HX off p k) Q h:=by obtain⟨n,x,vs,h',hr,q⟩:=hw.succ;exact CF ⟨n,x,vs,h',by simp only[IT.step,hv];exact hr,q⟩
def o_{size bytes:Nat}{s x v:Aa}{k:Aa->IT}{h1:Ah}(hv:FX h size bytes s x=some (h1,v))(hw:W C (k v) Q h1):W C (.FJ size bytes s x k) Q h:=by obtain⟨n,x,vs,h',hr,q⟩:=hw.succ;exact CF ⟨n,x,vs,h',by simp only[IT.step,hv];exact hr,q⟩
def mI{size bytes:Nat}{s x v:Aa}{k:Aa->IT}(hv:ON h size bytes s x=some v)(hw:W C (k v) Q h):W C (.FW size bytes s x k) Q h:=by obtain⟨n,x,vs,h',hr,q⟩:=hw.succ;exact CF ⟨n,x,vs,h',by simp only[IT.step,hv];exact hr,q⟩
def X_{o:qM}{args:List Aa}{v:Aa}{k:Aa->IT}{h1:Ah}(hv:EC o h args=some (h1,v))(hw:W C (k v) Q h1):W C (.mem o args k) Q h:=by obtain⟨n,x,vs,h',hr,q⟩:=hw.succ;exact CF ⟨n,x,vs,h',by simp only[IT.step,hv];exact hr,q⟩
def Ev(C:FC)(f:FuncId)(args:List Aa)(h:Ah)(R:Aa->Ah->Prop):Prop:=
 W C (B2 C f args) (λx vs h'=>x= .ret/\∃r,vs=[r]/\R r h') h
def Ev.mono{f:FuncId}{args:List Aa}{R R':Aa->Ah->Prop}(hw:Ev C f args h R)(hr:∀r h',R r h'->R' r h'):Ev C f args h R':=
 W.mono hw λ_ _ _ ⟨hx,r,hv,hR⟩=>⟨hx,r,hv,hr _ _ hR⟩
def qX{f:FuncId}{args:List Aa}{k:Aa->IT}(hc:Ev C f args h λr h1=>W C (k r) Q h1):W C (.call f args k) Q h:=by obtain⟨n,x,vs,h1,hr,hx,r,hv,m,x',GY,h',GH,q⟩:=hc;subst hx;subst hv;refine CF ⟨max n m,x',GY,h',?_,q⟩;have jw:=IT.HN (H9 n m) hr;have h2:=IT.HN (Bm (Hs n m) (EX _)) GH;simp only[IT.step];simp only[FC.run] at*;rw[jw];exact h2
def yN{f:FuncId}{args:List Aa}{k:Aa->IT}(ha:args.all Aa.K6=true)(hc:Ev C f args [] λr _=>r.K6=true/\W C (k r) Q h):W C (.Co f args k) Q h:=by obtain⟨n,x,vs,h1,hr,hx,r,hv,HV,m,x',GY,h',GH,q⟩:=hc;subst hx;subst hv;refine CF ⟨max n m,x',GY,h',?_,q⟩;have jw:=IT.HN (H9 n m) hr;have h2:=IT.HN (Bm (Hs n m) (EX _)) GH;simp only[IT.step,ha,BH];simp only[FC.run] at*;rw[jw];simp only[HV,BH];exact h2
def pc{key:Nat}{t:IT}{k:Fs->List Aa->IT}(hw:W C t (λx vs h1=>W C (k x vs) Q h1) h):W C (.Fj key t k) Q h:=by obtain⟨n,x,vs,h1,hr,zi⟩:=hw.succ;obtain⟨m,x',GY,h',GH,q⟩:=zi.succ;refine CF ⟨max n m,x',GY,h',?_,q⟩;have b:=IT.Jj (λt h r=>IT.HN (fn:=B2 C) (H9 n m)) _ _ _ hr;have a:=IT.Jj (λt h r=>IT.HN (fn:=B2 C) (Hs n m)) _ _ _ GH;simp only[IT.step];simp only[FC.run] at*;rw[b];exact a
end
end Go.Am
end
