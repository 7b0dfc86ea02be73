/- Lemmas -/
import GoSem.Step
set_option linter.all false
def Ae:=@Array.getElem?_eq_some_iff
def Af:=@List.getElem?_eq_some_iff
def Aj:=@List.mem_append
def An:=@List.length_append
def Ao:=@Bool.and_eq_true
def Ap:=@Nat.le_refl
def As:=@List.getElem?_append_left
def Aw:=@List.mem_append_right
def Ax:=@List.getElem?_eq_getElem
def Ay:=@List.mem_map
def AB:=@List.getElem?_set_ne
def AD:=@List.getElem?_set_self
def AE:=@List.size_toArray
def AF:=@List.length_cons
def AG:=@Option.some.injEq
def AI:=@Nat.add_mul
def AL:=@Nat.zero_add
def AM:=@Array.length_toList
def AP:=@List.mem_cons
def AQ:=@List.mem_of_mem_take
def AR:=@List.mem_append_left
def AS:=@List.take_of_length_le
def AT:=@List.mem_of_getElem?
def AU:=@List.getElem?_of_mem
def AX:=@Nat.le_trans
def AY:=@Array.getElem?_eq_getElem
def A0:=@List.getElem?_take
def A3:=@Option.map_some
def A4:=@List.length_nil
def A6:=@List.getElem?_take_of_lt
def Bc:=@if_true
def Bd:=@Nat.succ_pos
def Be:=@List.map_cons
def Bg:=@List.getElem?_drop
def Bi:=@List.nil_append
def Bm:=@congrArg
def Bq:=@List.eq_nil_of_length_eq_zero
def Bs:=@List.drop_eq_getElem_cons
def Bt:=@List.length_take
def Bu:=@List.mem_of_mem_drop
def Bv:=@List.drop_of_length_le
def Bx:=@Option.bind_some
def Bz:=@List.append_assoc
def BH:=@List.length_drop
def BL:=@List.getElem?_append_right
def BM:=@List.append_nil
def BT:=@List.flatten_cons
def B5:=@Bool.false_eq_true
def B6:=@List.mem_filterMap
def Cb:=@List.all_eq_true
def Cp:=@List.getElem?_map
def Cq:=@List.take_left
def Cs:=@List.cons.injEq
def Cz:=@List.cons_append
def CD:=@Nat.lt_or_ge
def CE:=@Nat.add_zero
def CL:=@Nat.mul_le_mul_right
def CO:=@decide_eq_true_eq
def C0:=@Array.toList_append
def C6:=@Array.getD_eq_getD_getElem?
def C9:=@Nat.le_max_right
def Dh:=@Array.ext'
def Di:=@List.getD_eq_getElem?_getD
def Dj:=@List.getElem?_eq_none
def Dk:=@List.length_replicate
def Dn:=@List.extract_eq_take_drop
def Dq:=@Nat.le_max_left
def Dr:=@Nat.min_eq_left
def Ds:=@List.length_map
def DF:=@Nat.lt_irrefl
def DR:=@Array.eq_empty_of_size_eq_zero
def DS:=@List.drop_drop
def DT:=@Nat.le_mul_of_pos_right
def D0:=@Nat.zero_le
def D1:=@Nat.mul_one
def D7:=@Option.some.inj
def D8:=@decide_eq_false
def Eo:=@Array.size_append
def EE:=@Array.replicate_succ
def EF:=@Array.replicate_zero
def EU:=@List.toList_toArray
def EV:=@List.replicate_succ
def EW:=@List.append_toArray
def Fk:=@Nat.eq_zero_or_pos
def Fo:=@Nat.one_mul
def Fp:=@List.getElem?_cons_succ
def FL:=@List.drop_zero
def FM:=@Nat.le_of_eq
def FN:=@List.map_nil
def FO:=@List.take_take
def FQ:=@Nat.zero_mul
def FT:=@and_true
def FU:=@List.push_toArray
def Ga:=@Array.getElem?_modify
def Gb:=@List.length_singleton
def Gc:=@Nat.eq_of_beq_eq_true
def Gn:=@Array.toList_map
def Gp:=@List.getElem_mem
def Gq:=@Prod.mk.injEq
def GH:=@Nat.le_succ
def GI:=@Array.toList_extract
def Hb:=@Bool.or_eq_true
def Hk:=@List.take_succ_cons
def Hl:=@Int.toNat_of_nonneg
def HX:=@Nat.lt_of_lt_of_le
def HY:=@List.take_zero
def HZ:=@Array.ext_getElem?
def Ij:=@Option.filter_eq_some_iff
def Iz:=@not_false_eq_true
def IA:=@not_true_eq_false
def I5:=@Bool.false_or
def I6:=@Bool.or_false
def I7:=@false_implies
def JN:=@if_false
def JO:=@List.reverse_nil
def JP:=@List.getElem?_cons_zero
def JQ:=@Option.bind_eq_some_iff
def JR:=@decide_eq_decide
def Kr:=@Nat.add_comm
def Ks:=@true_implies
def KP:=@List.nodup_cons
def KQ:=@List.map_append
def KR:=@List.drop_left'
def K8:=@List.set_append_right
def Ml:=@decide_eq_true
def MD:=@Array.getElem?_push
def ME:=@List.getD_cons_zero
def Ng:=@Nat.add_assoc
def Nh:=@List.all_cons
def N6:=@List.zip_cons_cons
def N9:=@List.set_eq_take_append_cons_drop
def O9:=@Nat.ne_of_lt
def Pb:=@List.ext_getElem?
def Pc:=@List.reverse_cons
def Pd:=@true_and
def Pe:=@bne_self_eq_false
def Pf:=@List.take_succ_eq_append_getElem
def Pg:=@of_decide_eq_true
def Pn:=@Array.getElem?_setIfInBounds_ne
def Qw:=@List.zipIdx_cons
def Qx:=@Option.getD_some
def Qy:=@List.drop_append
def Qz:=@List.mem_flatMap
def QA:=@Nat.lt_succ_self
def RT:=@List.take_append_of_le_length
def SX:=@List.foldl_cons
def SY:=@List.take_left'
def Vl:=@beq_iff_eq
def Vm:=@Bool.and_false
def Zo:=@Bool.not_true
def Zp:=@Bool.true_and
def Zq:=@List.eq_of_mem_replicate
def fD:=@List.length_eq_one_iff
def fE:=@decide_false
def fF:=@Nat.sub_self
def gD:=@List.contains_iff_mem
def gE:=@List.take_append_drop
def gF:=@Array.getElem?_toList
def qH:=@List.getElem?_append
def qI:=@List.range_eq_range'
def qJ:=@List.mem_cons_of_mem
def qK:=@List.pairwise_append
def rE:=@Nat.add_sub_cancel'
def rF:=@Array.toList_zipIdx
def rG:=@List.length_pos_iff
def rH:=@List.flatten_append
def rI:=@List.map_congr_left
def rJ:=@List.getD_cons_succ
def rK:=@List.drop_succ_cons
def rL:=@List.drop_take_self
def vW:=@Array.foldl_toList
def vX:=@List.pairwise_cons
def vY:=@List.mem_singleton
def vZ:=@List.zip_nil_right
def v8:=@Option.isSome_some
def wA:=@Option.isSome_none
def yY:=@Bool.not_eq_true'
def yZ:=@List.pairwise_map
def ix:=@List.take_append
def iy:=@List.range'_succ
def iz:=@beq_self_eq_true
def i_:=@Nat.zero_lt_succ
def ja:=@Option.getD_none
def ke:=@List.mem_filter
def kf:=@List.length_set
def kg:=@Option.map_none
def kh:=@Bool.eq_iff_iff
abbrev ki:List UInt8:=[97,116,116,114,105,98,117,116,101,78,97,109,101,32,97,116,116,114,105,98,117,116,101,84,121,112,101,32,98,97,115,101,70,114,101,113,117,101,110,99,121,32,98,97,115,101,80,114,111,102,105,108,101,32,99,97,108,99,77,111,100,101,32,99,108,105,112,80,97,116,104,85,110,105,116,115,32,100,105,102,102,117,115,101,67,111,110,115,116,97,110,116,32,101,100,103,101,77,111,100,101,32,102,105,108,116,101,114,85,110,105,116,115,32,103,108,121,112,104,82,101,102,32,103,114,97,100,105,101,110,116,84,114,97,110,115,102,111,114,109,32,103,114,97,100,105,101,110,116,85,110,105,116,115,32,107,101,114,110,101,108,77,97,116,114,105,120,32,107,101,114,110,101,108,85,110,105,116,76,101,110,103,116,104,32,107,101,121,80,111,105,110,116,115,32,107,101,121,83,112,108,105,110,101,115,32,107,101,121,84,105,109,101,115,32,108,101,110,103,116,104,65,100,106,117,115,116,32,108,105,109,105,116,105,110,103,67,111,110,101,65,110,103,108,101,32,109,97,114,107,101,114,72,101,105,103,104,116,32,109,97,114,107,101,114,85,110,105,116,115,32,109,97,114,107,101,114,87,105,100,116,104,32,109,97,115,107,67,111,110,116,101,110,116,85,110,105,116,115,32,109,97,115,107,85,110,105,116,115,32,110,117,109,79,99,116,97,118,101,115,32,112,97,116,104,76,101,110,103,116,104,32,112,97,116,116,101,114,110,67,111,110,116,101,110,116,85,110,105,116,115,32,112,97,116,116,101,114,110,84,114,97,110,115,102,111,114,109,32,112,97,116,116,101,114,110,85,110,105,116,115,32,112,111,105,110,116,115,65,116,88,32,112,111,105,110,116,115,65,116,89,32,112,111,105,110,116,115,65,116,90,32,112,114,101,115,101,114,118,101,65,108,112,104,97,32,112,114,101,115,101,114,118,101,65,115,112,101,99,116,82,97,116,105,111,32,112,114,105,109,105,116,105,118,101,85,110,105,116,115,32,114,101,102,88,32,114,101,102,89,32,114,101,112,101,97,116,67,111,117,110,116,32,114,101,112,101,97,116,68,117,114,32,114,101,113,117,105,114,101,100,69,120,116,101,110,115,105,111,110,115,32,114,101,113,117,105,114,101,100,70,101,97,116,117,114,101,115,32,115,112,101,99,117,108,97,114,67,111,110,115,116,97,110,116,32,115,112,101,99,117,108,97,114,69,120,112,111,110,101,110,116,32,115,112,114,101,97,100,77,101,116,104,111,100,32,115,116,97,114,116,79,102,102,115,101,116,32,115,116,100,68,101,118,105,97,116,105,111,110,32,115,116,105,116,99,104,84,105,108,101,115,32,115,117,114,102,97,99,101,83,99,97,108,101,32,115,121,115,116,101,109,76,97,110,103,117,97,103,101,32,116,97,98,108,101,86,97,108,117,101,115,32,116,97,114,103,101,116,88,32,116,97,114,103,101,116,89,32,116,101,120,116,76,101,110,103,116,104,32,118,105,101,119,66,111,120,32,118,105,101,119,84,97,114,103,101,116,32,120,67,104,97,110,110,101,108,83,101,108,101,99,116,111,114,32,121,67,104,97,110,110,101,108,83,101,108,101,99,116,111,114,32,122,111,111,109,65,110,100,80,97,110]
abbrev kj:List UInt8:=[97,108,116,71,108,121,112,104,32,97,108,116,71,108,121,112,104,68,101,102,32,97,108,116,71,108,121,112,104,73,116,101,109,32,97,110,105,109,97,116,101,67,111,108,111,114,32,97,110,105,109,97,116,101,77,111,116,105,111,110,32,97,110,105,109,97,116,101,84,114,97,110,115,102,111,114,109,32,99,108,105,112,80,97,116,104,32,102,101,66,108,101,110,100,32,102,101,67,111,108,111,114,77,97,116,114,105,120,32,102,101,67,111,109,112,111,110,101,110,116,84,114,97,110,115,102,101,114,32,102,101,67,111,109,112,111,115,105,116,101,32,102,101,67,111,110,118,111,108,118,101,77,97,116,114,105,120,32,102,101,68,105,102,102,117,115,101,76,105,103,104,116,105,110,103,32,102,101,68,105,115,112,108,97,99,101,109,101,110,116,77,97,112,32,102,101,68,105,115,116,97,110,116,76,105,103,104,116,32,102,101,68,114,111,112,83,104,97,100,111,119,32,102,101,70,108,111,111,100,32,102,101,70,117,110,99,65,32,102,101,70,117,110,99,66,32,102,101,70,117,110,99,71,32,102,101,70,117,110,99,82,32,102,101,71,97,117,115,115,105,97,110,66,108,117,114,32,102,101,73,109,97,103,101,32,102,101,77,101,114,103,101,32,102,101,77,101,114,103,101,78,111,100,101,32,102,101,77,111,114,112,104,111,108,111,103,121,32,102,101,79,102,102,115,101,116,32,102,101,80,111,105,110,116,76,105,103,104,116,32,102,101,83,112,101,99,117,108,97,114,76,105,103,104,116,105,110,103,32,102,101,83,112,111,116,76,105,103,104,116,32,102,101,84,105,108,101,32,102,101,84,117,114,98,117,108,101,110,99,101,32,102,111,114,101,105,103,110,79,98,106,101,99,116,32,103,108,121,112,104,82,101,102,32,108,105,110,101,97,114,71,114,97,100,105,101,110,116,32,114,97,100,105,97,108,71,114,97,100,105,101,110,116,32,116,101,120,116,80,97,116,104]
abbrev kq:List UInt8:=[98,97,115,101,32,98,97,115,101,102,111,110,116,32,98,103,115,111,117,110,100,32,108,105,110,107,32,109,101,116,97,32,110,111,102,114,97,109,101,115,32,115,99,114,105,112,116,32,115,116,121,108,101,32,116,101,109,112,108,97,116,101,32,116,105,116,108,101]
abbrev ku:List UInt8:=[116,101,109,112,108,97,116,101]
abbrev kx:List UInt8:=[97,110,110,111,116,97,116,105,111,110,45,120,109,108]
abbrev ky:List UInt8:=[45,47,47,87,51,67,47,47,68,84,68,32,72,84,77,76,32,69,120,112,101,114,105,109,101,110,116,97,108,32,49,57,57,54,48,55,49,50,47,47]
abbrev kz:List UInt8:=[104,116,109,108]
abbrev k_:List UInt8:=[45,47,47,87,51,67,47,47,68,84,68,32,72,84,77,76,32,69,120,112,101,114,105,109,101,110,116,97,108,32,57,55,48,52,50,49,47,47]
abbrev la:List UInt8:=[45,47,47,87,51,67,47,47,68,84,68,32,72,84,77,76,32,52,46,48,32,84,114,97,110,115,105,116,105,111,110,97,108,47,47]
abbrev lf:List UInt8:=[102,111,114,101,105,103,110,79,98,106,101,99,116]
abbrev lg:List UInt8:=[45,47,47,87,51,67,47,47,68,84,68,32,72,84,77,76,32,52,46,48,32,70,114,97,109,101,115,101,116,47,47]
abbrev lj:List UInt8:=[116,97,98,108,101]
abbrev lk:List UInt8:=[45,47,47,87,51,67,47,47,68,84,68,32,72,84,77,76,32,51,32,49,57,57,53,45,48,51,45,50,52,47,47]
abbrev ll:List UInt8:=[104,49,32,104,50,32,104,51,32,104,52,32,104,53,32,104,54]
abbrev lp:List UInt8:=[97,112,112,108,105,99,97,116,105,111,110,47,120,104,116,109,108,43,120,109,108]
abbrev lq:List UInt8:=[97,112,112,108,101,116,32,109,97,114,113,117,101,101,32,111,98,106,101,99,116]
abbrev ls:List UInt8:=[45,47,47,73,69,84,70,47,47,68,84,68,32,72,84,77,76,32,76,101,118,101,108,32]
abbrev lu:List UInt8:=[45,47,47,73,69,84,70,47,47,68,84,68,32,72,84,77,76,32,83,116,114,105,99,116]
abbrev ly:List UInt8:=[45,47,47,87,51,79,47,47,68,84,68,32,87,51,32,72,84,77,76,32,51,46,48,47,47]
abbrev lz:List UInt8:=[45,47,47,73,69,84,70,47,47,68,84,68,32,72,84,77,76,32,50,46,49,69,47,47]
abbrev l_:List UInt8:=[98,117,116,116,111,110]
abbrev ma:List UInt8:=[99,97,112,116,105,111,110]
abbrev mb:List UInt8:=[111,112,116,103,114,111,117,112]
abbrev mc:List UInt8:=[45,47,47,73,69,84,70,47,47,68,84,68,32,72,84,77,76,32,50,46,48]
abbrev me:List UInt8:=[45,47,47,87,51,67,47,47,68,84,68,32,87,51,32,72,84,77,76,47,47]
abbrev mf:List UInt8:=[116,105,116,108,101]
abbrev mg:List UInt8:=[104,101,97,100,32,98,111,100,121,32,104,116,109,108,32,98,114]
abbrev mh:List UInt8:=[111,112,116,105,111,110]
abbrev mi:List UInt8:=[45,47,47,87,51,67,47,47,68,84,68,32,72,84,77,76,32,51,46,50]
abbrev mj:List UInt8:=[45,47,47,73,69,84,70,47,47,68,84,68,32,72,84,77,76,32,51]
abbrev ml:List UInt8:=[45,47,47,73,69,84,70,47,47,68,84,68,32,72,84,77,76,47,47]
abbrev mm:List UInt8:=[104,101,97,100]
abbrev mn:List UInt8:=[100,101,102,105,110,105,116,105,111,110,117,114,108]
abbrev mo:List UInt8:=[116,102,111,111,116]
abbrev mq:List UInt8:=[116,98,111,100,121]
abbrev mr:List UInt8:=[116,104,101,97,100]
abbrev mv:List UInt8:=[120,108,105,110,107,58,97,114,99,114,111,108,101]
abbrev mw:List UInt8:=[100,101,102,105,110,105,116,105,111,110,85,82,76]
abbrev my:List UInt8:=[120,108,105,110,107,58,97,99,116,117,97,116,101]
abbrev mz:List UInt8:=[99,111,108,103,114,111,117,112]
abbrev m_:List UInt8:=[98,111,100,121]
abbrev nc:List UInt8:=[102,114,97,109,101,115,101,116]
abbrev nf:List UInt8:=[120,108,105,110,107,58,116,105,116,108,101]
abbrev ng:List UInt8:=[120,109,108,110,115,58,120,108,105,110,107]
abbrev nh:List UInt8:=[120,109,108,110,115]
abbrev ni:List UInt8:=[120,108,105,110,107,58,104,114,101,102]
abbrev nj:List UInt8:=[120,108,105,110,107,58,114,111,108,101]
abbrev nk:List UInt8:=[120,108,105,110,107,58,115,104,111,119]
abbrev nl:List UInt8:=[120,108,105,110,107,58,116,121,112,101]
abbrev np:List UInt8:=[116,101,120,116,47,104,116,109,108]
abbrev nr:List UInt8:=[120,109,108,58,115,112,97,99,101]
abbrev nu:List UInt8:=[100,101,115,99]
abbrev nv:List UInt8:=[101,110,99,111,100,105,110,103]
abbrev nw:List UInt8:=[110,111,115,99,114,105,112,116]
abbrev ny:List UInt8:=[120,109,108,58,108,97,110,103]
abbrev nz:List UInt8:=[109,97,114,113,117,101,101]
abbrev ob:List UInt8:=[116,121,112,101]
abbrev oc:List UInt8:=[114,116,99]
abbrev oe:List UInt8:=[110,111,98,114]
section
section
namespace Go.Am
abbrev Ag:=List UInt8
inductive Aa where
 |bool (b:Bool)
 |int (k:IntKind) (n:Int)
 |str (s:Ag)
 |ptr (p:Option (Nat×Nat))
 |A9 (cells:List Aa)
 |sl (size:Nat) (Ac:List (List Aa))
 |slnil
 |DU (size:Nat)
 |EG (id off len size:Nat)
 |map (m:Option Nat)
 |func (fn:Fn) (first captured:List Aa)
 |nilFunc
 |iface (t:TypeId) (v:Aa)
 |nilIface
 |agg (cells:List Aa)
 |tuple (vs:List Aa)
 deriving Inhabited
mutual
def Aa.beq:Aa->Aa->Bool
 | .bool a,.bool b=>a==b
 | .int k a,.int l b=>k==l&&a==b
 | .str a,.str b=>a==b
 | .ptr a,.ptr b=>a==b
 | .A9 a,.A9 b=>Aa.Lg a b
 | .sl n a,.sl m b=>n==m&&Aa.MF a b
 | .slnil,.slnil=>true
 | .DU a,.DU b=>a==b
 | .EG a b c d,.EG a' b' c' d'=>a==a'&&b==b'&&c==c'&&d==d'
 | .map a,.map b=>a==b
 | .func f a b,.func f' a' b'=>f==f'&&Aa.Lg a a'&&Aa.Lg b b'
 | .nilFunc,.nilFunc=>true
 | .iface t a,.iface t' a'=>t==t'&&Aa.beq a a'
 | .nilIface,.nilIface=>true
 | .agg a,.agg b=>Aa.Lg a b
 | .tuple a,.tuple b=>Aa.Lg a b
 |_,_=>false
def Aa.Lg:List Aa->List Aa->Bool
 |[],[]=>true
 |a::x,b::y=>Aa.beq a b&&Aa.Lg x y
 |_,_=>false
def Aa.MF:List (List Aa)->List (List Aa)->Bool
 |[],[]=>true
 |a::x,b::y=>Aa.Lg a b&&Aa.MF x y
 |_,_=>false
end
def Aa.cells:Aa->List Aa
 | .agg cs=>cs
 | .tuple _=>[]
 |v=>[v]
inductive Ig where
 |cells (cs:List Aa)
 |map (es:List (Aa×Aa))
 |Ec
 deriving Inhabited
abbrev Ab:=List Ig
inductive S6 where
 |copy (size:Nat)
 |clear (size:Nat) (zero:List Aa)
 |Vr (size:Nat) (lo hi:Bool)
 |S7 (size:Nat)
 |gG (t:TypeId)
 |Vs (zero:Aa) (ok:Bool)
 |JT (zero:Aa)
 |Ni (zero:Aa)
 |GL
 |KS
 |S8
 |Nj (g:Ab->List Aa->Option (Ab×Aa))
def S6.gH:S6->Bool
 | .S7 _| .clear _ _| .GL| .KS=>true
 |_=>false
inductive BQ where
 |undef
 |skip
 |val (v:Aa)
 |Hm (b:Bool)
 |A5 (v:Aa)
 |box (ver:Nat) (cells:List Aa) (A5:List Nat)
 |Cc (s off:Nat)
 deriving Inhabited
abbrev Av:=List BQ
def Av.at(U:Av)(s:Nat):BQ:=U.getD s .undef
def BQ.Da:BQ->Option Aa
 | .val v| .A5 v=>some v
 | .Hm b=>some (.bool b)
 |_=>none
inductive FK where
 |b|i|s
 deriving DecidableEq,Inhabited
inductive NK where
 |sl|fn|mp
 deriving DecidableEq,Inhabited
inductive Mm where
 |int (op:BinOp)
 |str (op:BinOp)
 |beq (neg:Bool)
 |geq (neg:Bool) (ks:List FK)
 |Lh (neg:Bool)
 |FZ (neg:Bool) (k:NK)
 |un (op:UnOp)
 |conv(k:IntKind)
 |pick
 |part (off:Nat) (n:Option Nat)
 |aF (len size:Nat) (n:Option Nat)
 |KT
 |CS (off:Nat)
 |Hn (size:Nat)
 |Kt (len size:Nat)
 |len (isStr:Bool)
 |append (size bytes:Nat)
 |Ku (size:Nat) (isStr lo hi:Bool)
 |ext (i:Nat)
 |Gd
 |BD (size:Nat)
 |DU (size:Nat)
 |Bn (zero:List Aa) (places:List (Nat×Nat))
 |Fe (isMax:Bool)
 |Oa
 |fG
 |rM
 deriving Inhabited
def Ho:Value->Option Aa
 | .bool b=>some (.bool b)
 | .int k n=>some (.int k n)
 | .string s=>some (.str s.data.toList)
 | .pointer none=>some (.ptr none)
 | .slice none 0 0=>some .slnil
 | .map none=>some (.map none)
 | .func fn f c=>if f.size=0/\c.size=0 then some (.func fn [] []) else none
 | .nilFunc=>some .nilFunc
 | .nilIface=>some .nilIface
 |_=>none
def Fv:List Value->Option (List Aa)
 |[]=>some []
 |v::vs=>match Ho v,Fv vs with
  |some a,some as=>some (a::as)
  |_,_=>none
def EX:Value->Option Aa
 | .agg cs=>(Fv cs.toList).map .agg
 |v=>Ho v
def H0:Sem Value->Option Value
 | .pure v=>some v
 |_=>none
def AO:Nat:=140737488355328
def QB(op:BinOp)(k:IntKind)(a:Int)(l:IntKind)(b:Int):Option Aa:=
 (H0 (binOp op 0 (.int k a) (.int l b))).bind λv=>match v with
  | .int k n=>some (.int k n)
  | .bool b=>some (.bool b)
  |_=>none
def QC(op:BinOp)(a b:Ag):Option Aa:=
 match op with
 | .add=>if a.length+b.length<=9223372036854775807 then some (.str (a++b)) else none
 | .eql=>some (.bool (a==b))
 | .neq=>some (.bool (!(a==b)))
 | .lss=>some (.bool (Op.bytesLess a b))
 | .leq=>some (.bool (Op.bytesLess a b||a==b))
 | .gtr=>some (.bool (!(Op.bytesLess a b||a==b)))
 | .geq=>some (.bool (!(Op.bytesLess a b)))
 |_=>none
def GM:FK->Aa->Aa->Option Bool
 | .b,.bool a,.bool b=>some (a==b)
 | .i,.int k a,.int l b=>if k=l then some (a==b) else none
 | .s,.str a,.str b=>some (a==b)
 |_,_,_=>none
def BU:List FK->List Aa->List Aa->Option Bool
 |[],[],[]=>some true
 |k::ks,a::x,b::y=>match GM k a b,BU ks x y with
  |some e,some es=>some (e&&es)
  |_,_=>none
 |_,_,_=>none
def QD:Aa->Aa->Option Bool
 | .ptr none,.ptr b=>some b.isNone
 | .ptr (some _),.ptr none=>some false
 | .ptr (some a),.ptr (some b)=>if a=b then some true else none
 | .ptr none,.A9 _=>some false
 | .A9 _,.ptr none=>some false
 |_,_=>none
def QE:NK->Aa->Aa->Option Bool
 | .sl,.slnil,.slnil=>some true
 | .sl,.slnil,.sl _ _=>some false
 | .sl,.sl _ _,.slnil=>some false
 | .sl,.slnil,.DU _=>some false
 | .sl,.DU _,.slnil=>some false
 | .sl,.slnil,.EG _ _ _ _=>some false
 | .sl,.EG _ _ _ _,.slnil=>some false
 | .fn,.nilFunc,.nilFunc=>some true
 | .fn,.nilFunc,.func _ _ _=>some false
 | .fn,.func _ _ _,.nilFunc=>some false
 | .mp,.map none,.map b=>some b.isNone
 | .mp,.map (some _),.map none=>some false
 |_,_,_=>none
def Cj(cs:List Aa)(off:Nat):Option Nat->Option Aa
 |none=>cs[off]?
 |some n=>if off+n<=cs.length then some (.agg ((cs.drop off).take n)) else none
def F0(n:Int)(len:Nat):Option Nat:=if 0<=n/\n<len then some n.toNat else none
def Fl(n:Int)(top:Nat):Option Nat:=if 0<=n/\n<=top then some n.toNat else none
def CT(lo hi:Bool)(len:Nat)(as:List Aa):Option (Nat×Nat):=
 match lo,hi with
 |false,false=>match as with
  |[]=>some (0,len)
  |_=>none
 |false,true=>match as with
  |[.int _ h]=>(Fl h len).map λh=>(0,h)
  |_=>none
 |true,false=>match as with
  |[.int _ l]=>(Fl l len).map λl=>(l,len)
  |_=>none
 |true,true=>match as with
  |[.int _ l,.int _ h]=>(Fl h len).bind λh=>(Fl l h).map λl=>(l,h)
  |_=>none
def H2:List (List Aa)->Option Ag
 |[]=>some []
 |[.int .u8 n]::rs=>(H2 rs).map λl=>n.toNat.toUInt8::l
 |_=>none
def Ed(s:Ag):List (List Aa):=s.map λb=>[.int .u8 b.toNat]
def BN(size bytes:Nat)(s:Aa)(Ac:List (List Aa)):Option Aa:=
 match Ac with
 |[]=>match s with
  | .slnil=>some .slnil
  | .DU z=>if z=size then some (.DU z) else none
  | .sl z r=>if z=size then some (.sl z r) else none
  |_=>none
 |Ac=>match s with
  | .slnil=>if Ac.length*bytes<=AO then some (.sl size Ac) else none
  | .DU z=>if z=size/\Ac.length*bytes<=AO then some (.sl size Ac) else none
  | .sl z r=>if z=size/\(r.length+Ac.length)*bytes<=AO then some (.sl size (r++Ac)) else none
  |_=>none
def GN(cs:List Aa):List ((Nat×Nat)×Aa)->Option (List Aa)
 |[]=>some cs
 |((off,size),v)::rest=>if 0<size/\v.cells.length=size/\off+size<=cs.length then GN (cs.take off++v.cells++cs.drop (off+size)) rest else none
def Zr(k:IntKind)(n:Int):Option Aa:=
 (H0 (Op.unary .xor (.int k n))).bind λv=>match v with
  | .int k n=>some (.int k n)
  |_=>none
def aG:UnOp->Aa->Option Aa
 | .not,.bool b=>some (.bool (!b))
 | .neg,.int k n=>some (.int k (k.wrap (0 -n)))
 | .xor,.int k n=>Zr k n
 |_,_=>none
def Li(p:Aa)(off:Nat):Option Aa:=
 match p with
 | .A9 cs=>some (.A9 (cs.drop off))
 | .ptr (some (id,o))=>some (.ptr (some (id,o+off)))
 |_=>none
def elemOf(size:Nat)(s:Aa)(i:Int):Option Aa:=
 match s with
 | .sl z Ac=>if z=size then(if 0<=i then(Ac[i.toNat]?).map .A9 else none) else none
 | .EG id off len z=>if z=size then(F0 i len).map λi=> .ptr (some (id,off+i*size)) else none
 |_=>none
def lenOf(isStr:Bool)(s:Aa):Option Aa:=
 match s with
 | .sl _ Ac=>if isStr then none else some (.int .i64 Ac.length)
 | .EG _ _ n _=>if isStr then none else some (.int .i64 n)
 | .slnil=>if isStr then none else some (.int .i64 0)
 | .DU _=>if isStr then none else some (.int .i64 0)
 | .str s=>if isStr then some (.int .i64 s.length) else none
 |_=>none
def Es(size bytes:Nat)(s x:Aa):Option Aa:=
 match x with
 | .slnil=>BN size bytes s []
 | .DU z=>if z=size then BN size bytes s [] else none
 | .sl z Ac=>if z=size then BN size bytes s Ac else none
 | .str x=>if size=1 then BN size bytes s (Ed x) else none
 |_=>none
def Jc(size:Nat)(isStr lo hi:Bool)(s:Aa)(as:List Aa):Option Aa:=
 match s with
 | .str s=>if isStr then(CT lo hi s.length as).map λ(l,h)=> .str ((s.take h).drop l) else none
 | .sl z Ac=>if isStr=false/\z=size then(CT lo hi Ac.length as).map λ(l,h)=> .sl z ((Ac.take h).drop l) else none
 | .EG id off n z=>if isStr=false/\z=size then(CT lo hi n as).bind λ(l,h)=>if l<n then some (.EG id (off+l*z) (h-l) z) else some (.sl z []) else none
 | .slnil=>if isStr then none else(CT lo hi 0 as).map λ_=> .slnil
 |_=>none
def Ob:Aa->Option Aa
 | .ptr (some p)=>some (.ptr (some p))
 | .A9 cs=>some (.A9 cs)
 | .func (.func f) a b=>some (.func (.func f) a b)
 |_=>none
def S9:Aa->Option Aa
 | .sl 1 Ac=>(H2 Ac).map .str
 | .slnil=>some (.str [])
 |_=>none
def AA(p:Mm)(args:List Aa):Option Aa:=
 match p with
 | .int op=>match args with
  |[.int k a,.int l b]=>QB op k a l b
  |_=>none
 | .str op=>match args with
  |[.str a,.str b]=>QC op a b
  |_=>none
 | .beq neg=>match args with
  |[.bool a,.bool b]=>some (.bool ((a==b) != neg))
  |_=>none
 | .geq neg ks=>match args with
  |[.agg a,.agg b]=>(BU ks a b).map λe=> .bool (e != neg)
  |_=>none
 | .Lh neg=>match args with
  |[a,b]=>(QD a b).map λe=> .bool (e != neg)
  |_=>none
 | .FZ neg k=>match args with
  |[a,b]=>(QE k a b).map λe=> .bool (e != neg)
  |_=>none
 | .un op=>match args with
  |[v]=>aG op v
  |_=>none
 | .conv k=>match args with
  |[.int _ n]=>some (.int k (k.wrap n))
  |_=>none
 | .rM=>match args with
  |[.int _ n]=>some (.str (Utf8.encode n).data.toList)
  |_=>none
 | .pick=>match args with
  |[.bool c,a,b]=>some (if c then a else b)
  |_=>none
 | .part off n=>match args with
  |[.agg cs]=>Cj cs off n
  |_=>none
 | .aF len size n=>match args with
  |[.agg cs,.int _ i]=>(F0 i len).bind λi=>Cj cs (i*size) n
  |_=>none
 | .KT=>match args with
  |[.str s,.int _ i]=>if 0<=i then(s[i.toNat]?).map λb=> .int .u8 b.toNat else none
  |_=>none
 | .CS off=>match args with
  |[p]=>Li p off
  |_=>none
 | .Hn size=>match args with
  |[s,.int _ i]=>elemOf size s i
  |_=>none
 | .Kt len size=>match args with
  |[p,.int _ i]=>(F0 i len).bind λi=>Li p (i*size)
  |_=>none
 | .len isStr=>match args with
  |[s]=>lenOf isStr s
  |_=>none
 | .append size bytes=>match args with
  |[s,x]=>Es size bytes s x
  |_=>none
 | .Ku size isStr lo hi=>match args with
  |s::as=>Jc size isStr lo hi s as
  |_=>none
 | .ext i=>match args with
  |[.tuple vs]=>vs[i]?
  |_=>none
 | .Gd=>match args with
  |[v]=>Ob v
  |_=>none
 | .BD size=>if args.all (λa=>a.cells.length==size)&&decide (args.length*size<=16777216) then some (.sl size (args.map (·.cells))) else none
 | .DU size=>if args.isEmpty then some (.DU size) else none
 | .Bn zero places=>if places.length=args.length then(GN zero (places.zip args)).map .agg else none
 | .Fe isMax=>match args with
  |[.int k a,.int l b]=>if k=l then some (.int k (if isMax then(if b>a then b else a) else(if b<a then b else a))) else none
  |_=>none
 | .Oa=>match args with
  |[v]=>S9 v
  |_=>none
 | .fG=>match args with
  |[.str s]=>if s.length<=AO then some (.sl 1 (Ed s)) else none
  |_=>none
inductive C7 where
 |normal
 |exit (id:Nat)
 |ret
 deriving DecidableEq,Inhabited
inductive IT where
 |ret (x:C7) (vs:List Aa)
 |fail
 |op (o:Mm) (args:List Aa) (k:Aa->IT)
 |cells (n:Nat) (v:Aa) (k:List Aa->IT)
 |Ah (c:Aa) (t e:IT)
 |load (n:Option Nat) (p:Aa) (k:Aa->IT)
 |store (n:Nat) (p v:Aa) (k:IT)
 |alloc (n:Nat) (v:Aa) (k:Aa->IT)
 |call (f:FuncId) (args:List Aa) (k:Aa->IT)
 |B7 (fn:Aa) (args:List Aa) (k:Aa->IT)
 |AW (f:FuncId) (args:List Aa) (k:Aa->IT)
 |loop (key:Nat) (init:List Aa) (body:List Aa->IT) (k:C7->List Aa->IT)
 |CU (key:Nat) (t:IT) (k:C7->List Aa->IT)
 |same (a b:Aa) (k:IT)
 |GO (k:Aa->IT)
 |Dt (m key v:Aa) (k:IT)
 |Fy (zero:Aa) (ok:Bool) (m key:Aa) (k:Aa->IT)
 |make (size bytes:Nat) (zero:List Aa) (len cap:Aa) (k:Aa->IT)
 |Eh (size bytes:Nat) (s x:Aa) (k:Aa->IT)
 |B8 (s:Aa) (k:Aa->IT)
 |Mn (v:Aa) (k:Aa->IT)
 |DJ (off:Nat) (p:Aa) (k:IT)
 |Dm (size bytes:Nat) (s x:Aa) (k:Aa->IT)
 |CM (size bytes:Nat) (s x:Aa) (k:Aa->IT)
 |mem (o:S6) (args:List Aa) (k:Aa->IT)
 |QF (f:FuncId) (args:List Aa) (k:Aa->IT)
 deriving Inhabited
def Aa.FW:Aa->Bool
 | .bool _| .int _ _| .str _=>true
 |_=>false
def Ck(h:Ab)(n:Option Nat):Aa->Option Aa
 | .A9 cs=>Cj cs 0 n
 | .ptr (some (id,off))=>match h[id]? with
  |some (.cells cs)=>Cj cs off n
  |_=>none
 |_=>none
def Dy(h:Ab)(n:Nat)(p v:Aa):Option Ab:=
 match p with
 | .ptr (some (id,off))=>match h[id]? with
  |some (.cells cs)=>if v.cells.length=n/\off+n<=cs.length then some (h.set id (.cells (cs.take off++v.cells++cs.drop (off+n)))) else none
  |_=>none
 |_=>none
def Lj(h:Ab)(n:Nat)(v:Aa):Option (Ab×Aa):=
 if v.cells.length=n then some (h++[.cells v.cells],.ptr (some (h.length,0))) else none
def QG(s:Ag):List (Aa×Aa)->Option (Option Aa)
 |[]=>some none
 |(.str t,v)::es=>if s=t then some (some v) else QG s es
 |_=>none
def RU(s:Ag)(v:Aa):List (Aa×Aa)->Option (List (Aa×Aa))
 |[]=>some [(.str s,v)]
 |(.str t,v')::es=>if s=t then some ((.str s,v)::es) else(RU s v es).map λes=>(.str t,v')::es
 |_=>none
def MG(h:Ab)(m k v:Aa):Option Ab:=
 match m,k with
 | .map (some id),.str s=>match h[id]? with
  |some (.map es)=>(RU s v es).map λes=>h.set id (.map es)
  |_=>none
 |_,_=>none
def Po(h:Ab)(m k:Aa):Option (Option Aa):=
 match m,k with
 | .map none,.str _=>some none
 | .map (some id),.str s=>match h[id]? with
  |some (.map es)=>QG s es
  |_=>none
 |_,_=>none
def MH(h:Ab)(zero:Aa)(ok:Bool)(m k:Aa):Option Aa:=
 (Po h m k).map λr=>match r with
  |some v=>if ok then .tuple [v,.bool true] else v
  |none=>if ok then .tuple [zero,.bool false] else zero
def Lk(h:Ab)(size bytes:Nat)(zero:List Aa):Aa->Aa->Option (Ab×Aa)
 | .int .i64 n,.int .i64 c=>if 0<=n/\n<=c/\c.toNat*bytes<=AO/\zero.length=size then
  some (h++[.cells (List.replicate c.toNat zero).flatten],.EG h.length 0 n.toNat size) else none
 |_,_=>none
def JU(size:Nat):Aa->Bool
 | .slnil=>true
 | .DU z=>z==size
 | .sl z []=>z==size
 |_=>false
def JV(h:Ab)(size bytes:Nat)(s:Aa):Aa->Option (Ab×Aa)
 | .sl z Ac=>if JU size s then(match Ac with
   |[]=>some (h,s)
   |Ac=>if z=size/\Ac.length*bytes<=AO then some (h++[.cells Ac.flatten],.EG h.length 0 Ac.length size) else none)
  else none
 | .slnil=>if JU size s then some (h,s) else none
 | .DU z=>if JU size s&&z==size then some (h,s) else none
 |_=>none
def EN(h:Ab):Aa->Option (Ab×Aa)
 | .str s=>if s.length<=AO then some (h++[.cells (s.map λb=> .int .u8 b.toNat)],.EG h.length 0 s.length 1) else none
 |_=>none
def A8(cs:List Aa)(z:Nat):Nat->Nat->List (List Aa)
 |_,0=>[]
 |off,n+1=>(cs.drop off).take z::A8 cs z (off+z) n
def IB(h:Ab):Aa->Option (Ab×Aa)
 | .EG id off n z=>match h[id]? with
  |some (.cells cs)=>if off+n*z<=cs.length then some (h.set id .Ec,.sl z (A8 cs z off n)) else none
  |_=>none
 |v=>some (h,v)
def Ll(h:Ab)(off:Nat)(p:Aa):Option Ab:=
 match p with
 | .ptr none=>some h
 | .ptr (some (id,o))=>match h[id]? with
  |some (.cells cs)=>match cs[o+off]? with
   |some v=>(IB h v).bind λ(h',v')=>match h'[id]? with
    |some (.cells Dz)=>some (h'.set id (.cells (Dz.set (o+off) v')))
    |_=>none
   |none=>none
  |_=>none
 |_=>none
def Hp(h:Ab)(size:Nat):Aa->Option (List (List Aa))
 | .slnil=>some []
 | .DU z=>if z=size then some [] else none
 | .sl z Ac=>if z=size then some Ac else none
 | .str s=>if size=1 then some (Ed s) else none
 | .EG id off n z=>if z=size then match h[id]? with
   |some (.cells cs)=>if off+n*z<=cs.length then some (A8 cs z off n) else none
   |_=>none
  else none
 |_=>none
def Fz(h:Ab)(size bytes:Nat)(s x:Aa):Option (Ab×Aa):=
 match Hp h size x with
 |none=>none
 |some []=>match s with
  | .slnil=>some (h,s)
  | .DU z=>if z=size then some (h,s) else none
  | .EG _ _ _ z=>if z=size then some (h,s) else none
  |_=>none
 |some Ac=>match s with
  | .slnil=>if Ac.length*bytes<=AO then some (h++[.cells Ac.flatten],.EG h.length 0 Ac.length size) else none
  | .DU z=>if z=size/\Ac.length*bytes<=AO then some (h++[.cells Ac.flatten],.EG h.length 0 Ac.length size) else none
  | .EG id off n z=>match h[id]? with
   |some (.cells cs)=>if z=size then
     (if off+(n+Ac.length)*z<=cs.length then some (h.set id (.cells (cs.take (off+n*z)++Ac.flatten++cs.drop (off+(n+Ac.length)*z))),.EG id off (n+Ac.length) z)
     else if off=0/\n*z<=cs.length/\(n+Ac.length)*bytes<=AO then some (h.set id .Ec++[.cells (cs.take (n*z)++Ac.flatten)],.EG h.length 0 (n+Ac.length) z) else none)
    else none
   |_=>none
  |_=>none
def MI(h:Ab)(size bytes:Nat)(s x:Aa):Option Aa:=(Hp h size x).bind (BN size bytes s)
def Ta(h:Ab)(size:Nat)(d x:Aa):Option (Ab×Aa):=
 match Hp h size x with
 |none=>none
 |some Ac=>match d with
  | .slnil=>if Ac.length=0 then some (h,.int .i64 0) else none
  | .EG id off n z=>match h[id]? with
   |some (.cells cs)=>if z=size/\Ac.length<=n/\off+n*z<=cs.length then some (h.set id (.cells (cs.take off++Ac.flatten++cs.drop (off+Ac.length*z))),.int .i64 Ac.length) else none
   |_=>none
  |_=>none
def Pp(h:Ab)(size:Nat)(zero:List Aa):Aa->Option (Ab×Aa)
 | .slnil=>some (h,.bool true)
 | .EG id off n z=>match h[id]? with
  |some (.cells cs)=>if z=size/\zero.length=size/\off+n*z<=cs.length then some (h.set id (.cells (cs.take off++(List.replicate n zero).flatten++cs.drop (off+n*z))),.bool true) else none
  |_=>none
 |_=>none
def Tb(h:Ab)(size:Nat)(lo hi:Bool)(s:Aa)(as:List Aa):Option (Ab×Aa):=
 match s with
 | .EG id off n z=>match h[id]? with
  |some (.cells cs)=>if z=size/\hi=true/\off<=cs.length then(CT lo hi ((cs.length-off)/z) as).bind λ(l,r)=>if l<(cs.length-off)/z then some (h,.EG id (off+l*z) (r-l) z) else none else none
  |_=>none
 |_=>none
def Pq(size:Nat):List Aa->Bool
 |[s,.int _ l,.int _ r,.int _ m]=>match s with
  | .EG _ _ n z=>z=size&&decide (0<=l)&&decide (l<=r)&&decide (r<=m)&&decide (m<=n)
  | .sl z Ac=>z=size&&decide (0<=l)&&decide (l<=r)&&decide (r<=m)&&decide (m<=Ac.length)
  |_=>false
 |_=>false
def GP(k:Int):List (Aa×Aa)->Nat->Option (Option (Nat×Aa))
 |[],_=>some none
 |(.int .i64 t,v)::es,i=>if k=t then some (some (i,v)) else GP k es (i+1)
 |_,_=>none
def Pr(zero:Aa)(ok:Bool):Option (Nat×Aa)->Aa
 |some (_,v)=>if ok then .tuple [v,.bool true] else v
 |none=>if ok then .tuple [zero,.bool false] else zero
def Tc(h:Ab)(zero:Aa)(ok:Bool)(m k:Aa):Option (Ab×Aa):=
 match m,k with
 | .map none,.int .i64 _=>some (h,Pr zero ok none)
 | .map (some id),.int .i64 n=>match h[id]? with
  |some (.map es)=>(GP n es 0).map λr=>(h,Pr zero ok r)
  |_=>none
 |_,_=>none
def Nk(h:Ab)(zero m k:Aa):Option (Ab×Aa):=
 match m,k with
 | .map (some id),.int .i64 n=>match h[id]? with
  |some (.map es)=>(GP n es 0).map λr=>match r with
   |some (i,v)=>(h,.tuple [v,.int .i64 i])
   |none=>(h.set id (.map (es++[(k,zero)])),.tuple [zero,.int .i64 es.length])
  |_=>none
 |_,_=>none
def Lm(k:Ag):List (Aa×Aa)->Nat->Option (Option (Nat×Aa))
 |[],_=>some none
 |(.str t,v)::es,i=>if k=t then some (some (i,v)) else Lm k es (i+1)
 |_,_=>none
def Nl(h:Ab)(zero m k:Aa):Option (Ab×Aa):=
 match m,k with
 | .map (some id),.str n=>match h[id]? with
  |some (.map es)=>(Lm n es 0).map λr=>match r with
   |some (i,v)=>(h,.tuple [v,.int .i64 i])
   |none=>(h.set id (.map (es++[(k,zero)])),.tuple [zero,.int .i64 es.length])
  |_=>none
 |_,_=>none
def Nn(h:Ab)(m i v:Aa):Option (Ab×Aa):=
 match m,i with
 | .map (some id),.int .i64 n=>match h[id]? with
  |some (.map es)=>if 0<=n then match es[n.toNat]? with
   |some (k,_)=>some (h.set id (.map (es.set n.toNat (k,v))),.bool true)
   |none=>none
   else none
  |_=>none
 |_,_=>none
def Td(h:Ab)(m k v:Aa):Option (Ab×Aa):=
 match m,k with
 | .map (some id),.int .i64 n=>match h[id]? with
  |some (.map es)=>match GP n es 0 with
   |some none=>some (h.set id (.map (es++[(.int .i64 n,v)])),.bool true)
   |_=>none
  |_=>none
 |_,_=>none
def Jd(h:Ab):List Aa->Option (Ab×Aa)
 |[.slnil,.int .i64 i,.sl 1 [[.int .i64 x]]]=>if i=0 then some (h++[.cells [.int .i64 x]],.EG h.length 0 1 1) else none
 |[.EG id 0 n 1,.int .i64 i,.sl 1 [[.int .i64 x]]]=>match h[id]? with
  |some (.cells cs)=>if 0<=i/\i.toNat<=n/\n<=cs.length/\(n+1)*8<=AO then some (h.set id .Ec++[.cells (cs.take i.toNat++[.int .i64 x]++(cs.take n).drop i.toNat)],.EG h.length 0 (n+1) 1) else none
  |_=>none
 |_=>none
def Je(o:S6)(h:Ab)(args:List Aa):Option (Ab×Aa):=
 match o with
 | .copy size=>match args with
  |[d,x]=>Ta h size d x
  |_=>none
 | .clear size zero=>match args with
  |[s]=>Pp h size zero s
  |_=>none
 | .Vr size lo hi=>match args with
  |s::as=>Tb h size lo hi s as
  |_=>none
 | .S7 size=>if Pq size args then some (h,.bool true) else none
 | .gG t=>match args with
  |[v]=>some (h,.iface t v)
  |_=>none
 | .Vs zero ok=>match args with
  |[m,k]=>Tc h zero ok m k
  |_=>none
 | .JT zero=>match args with
  |[m,k]=>Nk h zero m k
  |_=>none
 | .Ni zero=>match args with
  |[m,k]=>Nl h zero m k
  |_=>none
 | .GL=>match args with
  |[m,i,v]=>Nn h m i v
  |_=>none
 | .KS=>match args with
  |[m,k,v]=>Td h m k v
  |_=>none
 | .S8=>Jd h args
 | .Nj g=>g h args
def B4(f:FuncId):FuncId:=if f<=99999 then f else f%100000
def E4:Aa->List Aa->Option (FuncId×List Aa)
 | .func (.func f) first captured,args=>if f<=99999 then some (f,first++args++captured) else none
 |_,_=>none
abbrev Ep:=C7×List Aa×Ab
def IT.step(fn:FuncId->List Aa->IT)(rec:IT->Ab->Option Ep):IT->Ab->Option Ep
 | .ret x vs,h=>some (x,vs,h)
 | .fail,_=>none
 | .op o args k,h=>match AA o args with
  |some v=>IT.step fn rec (k v) h
  |none=>none
 | .cells n v k,h=>if v.cells.length=n then IT.step fn rec (k v.cells) h else none
 | .Ah c t e,h=>match c with
  | .bool true=>IT.step fn rec t h
  | .bool false=>IT.step fn rec e h
  |_=>none
 | .load n p k,h=>match Ck h n p with
  |some v=>IT.step fn rec (k v) h
  |none=>none
 | .store n p v k,h=>match Dy h n p v with
  |some h'=>IT.step fn rec k h'
  |none=>none
 | .alloc n v k,h=>match Lj h n v with
  |some (h',p)=>IT.step fn rec (k p) h'
  |none=>none
 | .call f args k,h=>match rec (fn f args) h with
  |some (.ret,[r],h')=>IT.step fn rec (k r) h'
  |_=>none
 | .B7 g args k,h=>match E4 g args with
  |some (f,args)=>match rec (fn f args) h with
   |some (.ret,[r],h')=>IT.step fn rec (k r) h'
   |_=>none
  |none=>none
 | .AW f args k,h=>if args.all Aa.FW then match rec (fn f args) [] with
   |some (.ret,[r],_)=>if r.FW then IT.step fn rec (k r) h else none
   |_=>none
  else none
 | .loop key init body k,h=>match IT.step fn rec (body init) h with
  |some (.normal,vs,h')=>rec (.loop key vs body k) h'
  |some (x,vs,h')=>IT.step fn rec (k x vs) h'
  |none=>none
 | .CU _ t k,h=>match IT.step fn rec t h with
  |some (x,vs,h')=>IT.step fn rec (k x vs) h'
  |none=>none
 | .same a b k,h=>if Aa.beq a b then IT.step fn rec k h else none
 | .GO k,h=>IT.step fn rec (k (.map (some h.length))) (h++[.map []])
 | .Dt m key v k,h=>match MG h m key v with
  |some h'=>IT.step fn rec k h'
  |none=>none
 | .Fy zero ok m key k,h=>match MH h zero ok m key with
  |some v=>IT.step fn rec (k v) h
  |none=>none
 | .make size bytes zero len cap k,h=>match Lk h size bytes zero len cap with
  |some (h',v)=>IT.step fn rec (k v) h'
  |none=>none
 | .Eh size bytes s x k,h=>match JV h size bytes s x with
  |some (h',v)=>IT.step fn rec (k v) h'
  |none=>none
 | .B8 s k,h=>match EN h s with
  |some (h',v)=>IT.step fn rec (k v) h'
  |none=>none
 | .Mn v k,h=>match IB h v with
  |some (h',v')=>IT.step fn rec (k v') h'
  |none=>none
 | .DJ off p k,h=>match Ll h off p with
  |some h'=>IT.step fn rec k h'
  |none=>none
 | .Dm size bytes s x k,h=>match Fz h size bytes s x with
  |some (h',v)=>IT.step fn rec (k v) h'
  |none=>none
 | .CM size bytes s x k,h=>match MI h size bytes s x with
  |some v=>IT.step fn rec (k v) h
  |none=>none
 | .mem o args k,h=>match Je o h args with
  |some (h',v)=>IT.step fn rec (k v) h'
  |none=>none
 | .QF f args k,h=>match rec (fn f args) [] with
  |some (.ret,[r],_)=>if r.FW then IT.step fn rec (k r) h else none
  |_=>none
def IT.run(fn:FuncId->List Aa->IT):Nat->IT->Ab->Option Ep
 |0=>λ_ _=>none
 |n+1=>IT.step fn (IT.run fn n)
end Go.Am
end
section
namespace Go.Am
inductive Sh where
 |val
 |A5
 |box (n:Nat) (A5:List Nat)
 deriving Inhabited
inductive QH where
 |Hq|heap
 deriving DecidableEq,Inhabited
structure CB where
 P:Program
 aH:FuncId->Nat->List (Nat×Sh)
 Zs:FuncId->Nat->Option (List (Nat×Sh))
 Zt:FuncId->Nat->Option (List (Nat×Sh))
 kind:FuncId->Nat->QH
 Et:FuncId->Bool
 Zu:FuncId->Bool
 RV:FuncId->Nat->Bool
 gI:FuncId->Nat->Bool
 Te:FuncId->Bool
 Tf:FuncId->List (Nat×Nat)
 C8:Nat->Option (List Aa)
 aI:FuncId->Option (List Aa->IT)
 gJ:FuncId->FuncId->FuncId
 aJ:FuncId->Bool
inductive BV where
 |pure (ws:List (Nat×BQ))
 |op (p:Mm) (args:List Aa) (dst:Option Nat) (A5:Bool) (BA:Option (Nat×Aa))
 |box (n:Nat) (v:Aa) (dst:Nat)
 |closure (fn:Fn) (first captured:List Aa) (froze:List (Nat×List Aa)) (dst:Nat)
 |Ge (s off n:Nat) (v:Aa) (A5:Bool) (BA:Option (Nat×Aa)) (ver:Nat) (cells:List Aa) (owned:List Nat)
 |load (n:Option Nat) (p:Aa) (dst:Option Nat)
 |store (n:Nat) (p v:Aa)
 |alloc (n:Nat) (v:Aa) (dst:Option Nat)
 |call (f:FuncId) (args:List Aa) (dst:Option Nat)
 |B7 (g:Aa) (args:List Aa) (dst:Option Nat)
 |AW (f:FuncId) (args:List Aa) (dst:Option Nat)
 |GO (dst:Option Nat)
 |Dt (m k v:Aa)
 |Fy (zero:Aa) (ok:Bool) (m k:Aa) (dst:Option Nat)
 |make (size bytes:Nat) (zero:List Aa) (len cap:Aa) (dst:Option Nat)
 |Eh (size bytes:Nat) (s x:Aa) (dst:Option Nat) (BA:Option (Nat×Aa))
 |Dm (size bytes:Nat) (s x:Aa) (dst:Option Nat)
 |CM (size bytes:Nat) (s x:Aa) (dst:Option Nat) (BA:Option (Nat×Aa))
 |B8 (s:Aa) (dst:Option Nat)
 |Oa (v:Aa) (dst:Option Nat)
 |mem (o:S6) (args:List Aa) (dst:Option Nat)
def Az(P:Program)(t:TypeId):Option Nat:=(P.info? t).map (·.size)
def Eu(P:Program)(t:TypeId):Option Nat:=(P.info? t).map (·.bytes)
def Cg(P:Program)(t:TypeId):Option (Option Nat):=
 match P.underlying t with
 |some (.struct _)|some (.array _ _)=>(Az P t).map some
 |some _=>some none
 |none=>none
def C1(P:Program)(t:TypeId):Option Aa:=((P.info? t).bind (·.zero)).bind EX
def Ln(rec:TypeId->Option (List FK)):List Field->Nat->Option (List FK)
 |[],_=>some []
 |f::fs,off=>if f.name≠ "_"/\f.offset=off then match rec f.type with
   |some ks=>(Ln rec fs (off+ks.length)).map (ks++·)
   |none=>none
  else none
def Hr(P:Program):Nat->TypeId->Option (List FK)
 |0,_=>none
 |d+1,t=>
  let one (k:FK):Option (List FK):=if Az P t=some 1 then some [k] else none
  match P.underlying t with
  |some .bool=>one .b
  |some (.int _)=>one .i
  |some .string=>one .s
  |some (.struct fs)=>match Ln (Hr P d) fs.toList 0 with
   |some ks=>if Az P t=some ks.length/\P.stoodInHeld t=false then some ks else none
   |none=>none
  |_=>none
def DK(P:Program)(s:TypeId)(f:Nat):Option (Nat×Option Nat):=
 match P.underlying s with
 |some (.struct fs)=>match fs[f]? with
  |some fd=>match Az P fd.type,Cg P fd.type with
   |some (_+1),some sh=>some (fd.offset,sh)
   |_,_=>none
  |none=>none
 |_=>none
def BK(C:CB)(U:Av):Operand->Option BQ
 | .tmp t=>some (U.at t)
 | .const (.bool b)=>some (.Hm b)
 | .const (.slice none 0 0)=>some (.A5 .slnil)
 | .const v=>(EX v).map .val
 | .global g=>(C.C8 g).map λcs=> .val (.A9 cs)
 | .func f=>some (.val (.func (.func f) [] []))
def B2(C:CB)(U:Av)(x:Operand):Option Aa:=(BK C U x).bind BQ.Da
def Ak(C:CB)(U:Av):List Operand->Option (List Aa)
 |[]=>some []
 |x::xs=>match B2 C U x,Ak C U xs with
  |some v,some vs=>some (v::vs)
  |_,_=>none
def Tg(ops:List Oper)(d:Nat):Bool:=
 ops.any λo=>match o.op with
  | .call c=>(match c.callee with| .builtin .append=>true|_=>false)&&(match(c.args[0]?:Option Operand) with|some (.tmp t)=>t==d|_=>false)
  |_=>false
def DL:BQ->Option BQ
 | .val v=>some (.val v)
 | .Hm b=>some (.Hm b)
 | .A5 v=>some (.val v)
 | .Cc s o=>some (.Cc s o)
 |_=>none
def Jf(x:Operand)(v:Aa):List (Nat×BQ):=
 match x with
 | .tmp s=>[(s,.val v)]
 |_=>[]
def EO(C:CB)(U:Av)(x:Operand)(d:Nat)(take:Bool):Option BV:=
 match x,BK C U x with
 | .tmp s,some (.box _ _ _)=>some (.pure [(d,.Cc s 0)])
 | .const _,some sl=>some (.pure [(d,sl)])
 |x,some (.A5 v)=>if take then some (.pure (Jf x v++[(d,.A5 v)])) else(DL (.A5 v)).map λs=> .pure [(d,s)]
 |_,some s=>(DL s).map λs=> .pure [(d,s)]
 |_,none=>none
def Lo(cs:List Aa):List Nat:=(List.range cs.length).filter λi=>match cs.getD i .nilIface with| .slnil=>true|_=>false
def Gf(U:Av)(ds:List Nat):Bool:=U.all λs=>match s with| .Cc s _=> !ds.contains s|_=>true
def Av.drop(U:Av)(ds:List Nat):Av:=match ds with|[]=>U|ds=>U.map λs=>match s with| .Cc s o=>if ds.contains s then .undef else .Cc s o|s=>s
def Kv(C:CB)(fid:FuncId)(t:TypeId)(v:Aa)(d:Nat):Option BV:=
 match Az C.P t with
 |none=>none
 |some n=>if n=0 then none else match C.kind fid d with
  | .Hq=>some (.box n v d)
  | .heap=>some (.alloc n v (some d))
inductive aK where
 |Hq (s off ver:Nat) (cells:List Aa) (A5:List Nat)
 |ptr (p:Aa)
def CF(C:CB)(U:Av)(x:Operand):Option aK:=
 match x,BK C U x with
 | .tmp s,some (.box ver cs ow)=>some (.Hq s 0 ver cs ow)
 |_,some (.Cc s o)=>match U.at s with
  | .box ver cs ow=>some (.Hq s o ver cs ow)
  |_=>none
 |_,some s=>s.Da.map .ptr
 |_,none=>none
def Bp(U:Av):Operand->Option (Nat×Aa)
 | .tmp s=>match U.at s with
  | .A5 v=>some (s,v)
  |_=>none
 |_=>none
def E5(C:CB)(U:Av)(x:Operand):Bool:=match BK C U x with|some (.A5 _)=>true|_=>false
def Ff(C:CB)(U:Av)(t:TypeId)(x:Operand)(d:Nat)(take:Bool):Option BV:=
 match Cg C.P t,CF C U x with
 |some n,some (.ptr p)=>some (.load n p (some d))
 |some none,some (.Hq s o ver cs ow)=>
  if o<cs.length then
   let v:=cs.getD o .nilIface
   if ow.contains o&& !(ow.erase o).contains o&&take then some (.pure [(s,.box (ver+1) cs (ow.erase o)),(d,.A5 v)])
   else some (.pure [(d,.val v)])
  else none
 |some (some n),some (.Hq _ o _ cs _)=>if o+n<=cs.length then some (.pure [(d,.val (.agg ((cs.drop o).take n)))]) else none
 |_,_=>none
def D9(C:CB)(U:Av)(t:TypeId)(x y:Operand):Option BV:=
 match Az C.P t,Cg C.P t,CF C U x,B2 C U y with
 |some (n+1),_,some (.ptr p),some v=>some (.store (n+1) p v)
 |some (n+1),some sh,some (.Hq s o ver cs ow),some v=>
  if o+(n+1)<=cs.length then
   let A5:=sh.isNone&&E5 C U y
   some (.Ge s o (n+1) v A5 (if A5 then Bp U y else none) ver cs ow)
  else none
 |_,_,_,_=>none
def JW(P:Program)(t:TypeId)(neg:Bool)(u:TypeDesc):Option Mm:=
 match u with
 | .bool=>some (.beq neg)
 | .struct _=>if P.eqGuardType P.depth t=false then(Hr P 20 t).map (.geq neg) else none
 | .pointer e=>if(Az P e).getD 0=0 then none else some (.Lh neg)
 | .slice _=>some (.FZ neg .sl)
 | .func _ _ _=>some (.FZ neg .fn)
 | .map _ _=>some (.FZ neg .mp)
 |_=>none
def H3(P:Program)(op:BinOp)(t:TypeId):Option Mm:=
 match P.underlying t with
 |some (.int _)=>some (.int op)
 |some .string=>some (.str op)
 |some u=>match op with
  | .eql=>JW P t false u
  | .neq=>JW P t true u
  |_=>none
 |none=>none
def JX(p:Mm)(dst:Option Nat):Option (List Aa)->Option BV
 |some args=>some (.op p args dst false none)
 |none=>none
def Ew(P:Program)(t:TypeId):List (Nat×Operand)->Option (List (Nat×Nat))
 |[]=>some []
 |(i,_)::rest=>match P.underlying t with
  |some (.struct fs)=>match fs[i]? with
   |some f=>match Az P f.type,Ew P t rest with
    |some n,some r=>some ((f.offset,n)::r)
    |_,_=>none
   |none=>none
  |some (.array len e)=>if i<len then match Az P e,Ew P t rest with
    |some n,some r=>some ((i*n,n)::r)
    |_,_=>none
   else none
  |_=>none
def FA(P:Program)(t:TypeId):Bool:=
 match P.info? t with
 |some i=>match i.zero with
  |some z=>z.cells.size==i.size
  |none=>false
 |none=>false
def K9(P:Program)(t:TypeId):Bool:=
 match P.underlying t with
 |some (.struct fs)=>fs.toList.all λf=>(Az P f.type).isSome
 |some (.array _ e)=>(Az P e).isSome
 |_=>false
def JY(o:S6)(dst:Option Nat):Option (List Aa)->Option BV
 |some args=>some (.mem o args dst)
 |none=>none
def IC(C:CB)(fid:FuncId)(U:Av)(c:Call)(dst:Option Nat):Option BV:=
 match c.callee with
 | .builtin .len=>match c.argTypes[0]? with
  |some t=>match C.P.underlying t with
   |some .string=>JX (.len true) dst (Ak C U c.args.toList)
   |some (.slice _)=>JX (.len false) dst (Ak C U c.args.toList)
   |_=>none
  |none=>none
 | .builtin .append=>match c.argTypes[0]?,c.argTypes[1]?,c.args.toList with
  |some t,some t',[s,x]=>match C.P.underlying t,C.P.underlying t' with
   |some (.slice e),some (.slice _)|some (.slice e),some .string=>match Az C.P e,Eu C.P e with
    |some (n+1),some (b+1)=>if FA C.P e then match Ak C U [s,x] with
      |some [v,u]=>if E5 C U s then
        (if(dst.map (C.RV fid)).getD false then some (.Eh (n+1) (b+1) v u dst (Bp U s))
        else if(dst.map (C.gI fid)).getD false then some (.CM (n+1) (b+1) v u dst (Bp U s))
        else some (.op (.append (n+1) (b+1)) [v,u] dst true (Bp U s)))
       else if(dst.map (C.RV fid)).getD false then some (.Dm (n+1) (b+1) v u dst) else none
      |_=>none
     else none
    |_,_=>none
   |_,_=>none
  |_,_,_=>none
 | .builtin .copy=>match c.argTypes[0]?,c.argTypes[1]?,c.args.toList with
  |some t,some t',[s,x]=>match C.P.underlying t,C.P.underlying t' with
   |some (.slice e),some (.slice _)|some (.slice e),some .string=>match Az C.P e with
    |some (n+1)=>JY (.copy (n+1)) dst (Ak C U [s,x])
    |_=>none
   |_,_=>none
  |_,_,_=>none
 | .builtin .clear=>match c.argTypes[0]?,c.args.toList with
  |some t,[s]=>match C.P.underlying t with
   |some (.slice e)=>match Az C.P e,C1 C.P e with
    |some (n+1),some z=>JY (.clear (n+1) z.cells) dst (Ak C U [s])
    |_,_=>none
   |_=>none
  |_,_=>none
 | .builtin .max=>if c.args.size=2 then JX (.Fe true) dst (Ak C U c.args.toList) else none
 | .builtin .min=>if c.args.size=2 then JX (.Fe false) dst (Ak C U c.args.toList) else none
 | .value (.func f)=>if C.aJ f then(match c.args.toList with
  |[s,i,v]=>if E5 C U v then JY .S8 dst (Ak C U [s,i,v]) else none
  |_=>none) else if B4 (C.gJ fid f)=f then(Ak C U c.args.toList).map λargs=>if C.Zu (C.gJ fid f) then .AW (C.gJ fid f) args dst else .call (C.gJ fid f) args dst else none
 | .value g=>match B2 C U g,Ak C U c.args.toList with
  |some g,some args=>some (.B7 g args dst)
  |_,_=>none
 |_=>none
def Lp(C:CB)(src dst:TypeId):Option (Option Mm):=
 match C.P.underlying src,C.P.underlying dst with
 |some (.int _),some (.int k)=>some (some (.conv k))
 |some (.int _),some .string=>some (some .rM)
 |some .string,some .string=>some none
 |some (.slice e),some .string=>match C.P.underlying e with
  |some (.int .u8)=>some (some .Oa)
  |_=>none
 |some .string,some (.slice e)=>match C.P.underlying e,Az C.P e,Eu C.P e with
  |some (.int .u8),some 1,some 1=>some (some .fG)
  |_,_,_=>none
 |_,_=>none
def Db(C:CB)(U:Av):List Operand->Option (List Aa×List (Nat×List Aa))
 |[]=>some ([],[])
 |x::xs=>match Db C U xs with
  |none=>none
  |some (vs,fz)=>match x,BK C U x with
   | .tmp s,some (.box _ cs _)=>if(fz.map (·.1)).contains s then none else some (.A9 cs::vs,(s,cs)::fz)
   |_,some sl=>match sl.Da with
    |some v=>some (v::vs,fz)
    |none=>none
   |_,none=>none
def CG(C:CB)(fid:FuncId)(ops:List Oper)(U:Av)(o:Oper):Option BV:=
 match o.op with
 | .move x=>match o.dst with
  |some d=>EO C U x d (Tg ops d)
  |none=>none
 | .assign x=>match o.dst with
  |some d=>EO C U x d true
  |none=>none
 | .pick c a b=>match BK C U c,o.dst with
  |some (.Hm true),some d=>EO C U a d false
  |some (.Hm false),some d=>EO C U b d false
  |_,dst=>JX .pick dst (Ak C U [c,a,b])
 | .alloc t=>match o.dst,C1 C.P t with
  |some d,some z=>match C.kind fid d with
   | .Hq=>if Az C.P t=some z.cells.length/\z.cells≠[] then some (.pure [(d,.box 0 z.cells (Lo z.cells))]) else none
   |_=>Kv C fid t z d
  |_,_=>none
 | .box t x=>match o.dst,B2 C U x with
  |some d,some v=>Kv C fid t v d
  |_,_=>none
 | .build t parts=>match C1 C.P t,Ew C.P t parts.toList with
  |some z,some ps=>if K9 C.P t then JX (.Bn z.cells ps) o.dst (Ak C U (parts.toList.map (·.2))) else none
  |_,_=>none
 | .buildSlice t len parts=>match C.P.underlying t with
  |some (.slice e)=>match Az C.P e with
   |some (n+1)=>if parts.toList.map (·.1)=List.range len/\FA C.P e=true then if len=0/\(o.dst.map (C.RV fid)).getD false=true then some (.op (.DU (n+1)) [] o.dst true none) else(Ak C U (parts.toList.map (·.2))).map λargs=> .op (.BD (n+1)) args o.dst true none else none
   |_=>none
  |_=>none
 | .load t x=>match o.dst with
  |some d=>Ff C U t x d (Tg ops d)
  |none=>none
 | .store t x y=>match o.dst with
  |none=>D9 C U t x y
  |some _=>none
 | .nilCheck x=>match x,BK C U x,o.dst with
  | .tmp s,some (.box _ _ _),some d=>some (.pure [(d,.Cc s 0)])
  |_,some (.Cc s k),some d=>some (.pure [(d,.Cc s k)])
  |x,_,dst=>JX .Gd dst (Ak C U [x])
 | .binOp op t x y _=>match H3 C.P op t with
  |some p=>JX p o.dst (Ak C U [x,y])
  |none=>none
 | .unOp op _ x=>JX (.un op) o.dst (Ak C U [x])
 | .convert src dst x=>match Lp C src dst with
  |some (some .Oa)=>(B2 C U x).map λv=> .Oa v o.dst
  |some (some .fG)=>if(o.dst.map (C.RV fid)).getD false then(B2 C U x).map λv=> .B8 v o.dst else JX .fG o.dst (Ak C U [x])
  |some (some p)=>JX p o.dst (Ak C U [x])
  |_=>none
 | .makeFunc fn first captured=>match o.dst,Ak C U first.toList,Db C U captured.toList with
  |some d,some a,some (b,fz)=>some (.closure fn a b fz d)
  |_,_,_=>none
 | .makeMap _ none=>some (.GO o.dst)
 | .makeSlice t l c=>match C.P.underlying t with
  |some (.slice e)=>match Az C.P e,Eu C.P e,C1 C.P e,B2 C U l,B2 C U c with
   |some (n+1),some (b+1),some z,some l,some c=>some (.make (n+1) (b+1) z.cells l c o.dst)
   |_,_,_,_,_=>none
  |_=>none
 | .insert t m k v| .mapUpdate t m k v=>match C.P.underlying t with
  |some (.map kt _)=>match o.dst,C.P.underlying kt,Ak C U [m,k,v] with
   |none,some .string,some [m,k,v]=>some (.Dt m k v)
   |none,some (.int .i64),some [m,k,v]=>some (.mem .KS [m,k,v] none)
   |_,_,_=>none
  |_=>none
 | .lookup t m k ok=>match C.P.underlying t with
  |some (.map kt e)=>match C.P.underlying kt,C1 C.P e,Ak C U [m,k] with
   |some .string,some z,some [m,k]=>some (.Fy z ok m k o.dst)
   |some (.int .i64),some z,some [m,k]=>some (.mem (.Vs z ok) [m,k] o.dst)
   |_,_,_=>none
  |_=>none
 | .slice t x (some lo) (some hi) (some mx)=>match C.P.underlying t with
  |some (.slice e)=>match Az C.P e with
   |some (n+1)=>JY (.S7 (n+1)) o.dst (Ak C U [x,lo,hi,mx])
   |_=>none
  |_=>none
 | .makeInterface t x=>match C.P.underlying t with
  |some (.interface _)=>none
  |some _=>JY (.gG t) o.dst (Ak C U [x])
  |none=>none
 | .mapEntry t m k=>match C.P.underlying t with
  |some (.map kt e)=>match C.P.underlying kt,C1 C.P e with
   |some (.int .i64),some z=>JY (.JT z) o.dst (Ak C U [m,k])
   |some .string,some z=>JY (.Ni z) o.dst (Ak C U [m,k])
   |_,_=>none
  |_=>none
 | .entryStore _ m s v=>match o.dst with
  |none=>JY .GL none (Ak C U [m,s,v])
  |some _=>none
 | .slice t x lo hi none=>match C.P.underlying t with
  |some .string=>JX (.Ku 0 true lo.isSome hi.isSome) o.dst (Ak C U (x::(lo.toList++hi.toList)))
  |some (.slice e)=>match Az C.P e with
   |some (n+1)=>if(o.dst.map (C.RV fid)).getD false then JY (.Vr (n+1) lo.isSome hi.isSome) o.dst (Ak C U (x::(lo.toList++hi.toList)))
    else JX (.Ku (n+1) false lo.isSome hi.isSome) o.dst (Ak C U (x::(lo.toList++hi.toList)))
   |_=>none
  |_=>none
 | .fieldAddr t x f=>match DK C.P t f,o.dst with
  |some (off,_),some d=>match x,BK C U x with
   | .tmp s,some (.box _ _ _)=>some (.pure [(d,.Cc s off)])
   |_,some (.Cc s k)=>some (.pure [(d,.Cc s (k+off))])
   |x,_=>JX (.CS off) (some d) (Ak C U [x])
  |_,_=>none
 | .field t x f=>match DK C.P t f with
  |some (off,sh)=>JX (.part off sh) o.dst (Ak C U [x])
  |none=>none
 | .indexAddr t x i=>match C.P.underlying t with
  |some (.slice e)=>match Az C.P e with
   |some (n+1)=>JX (.Hn (n+1)) o.dst (Ak C U [x,i])
   |_=>none
  |some (.array len e)=>match Az C.P e with
   |some (n+1)=>if len<=1 then none else JX (.Kt len (n+1)) o.dst (Ak C U [x,i])
   |_=>none
  |_=>none
 | .index t x i=>match C.P.underlying t with
  |some .string=>JX .KT o.dst (Ak C U [x,i])
  |some (.array len e)=>match Az C.P e,Cg C.P e with
   |some (n+1),some sh=>JX (.aF len (n+1) sh) o.dst (Ak C U [x,i])
   |_,_=>none
  |_=>none
 | .extract x i=>JX (.ext i) o.dst (Ak C U [x])
 | .call c=>IC C fid U c o.dst
 |_=>none
def Av.BW(U:Av):List (Nat×BQ)->Av
 |[]=>U
 |(s,x)::ws=>Av.BW (U.set s x) ws
def Av.put(U:Av)(dst:Option Nat)(x:BQ):Av:=
 match dst with
 |some d=>U.set d x
 |none=>U
def Av.BA(U:Av):Option (Nat×Aa)->Av
 |some (s,v)=>U.set s (.val v)
 |none=>U
def Lq(n:Nat)(cs:List Aa):List Aa:=(List.range n).map λi=>cs.getD i .nilIface
def Lr(cs:List Aa)(off n:Nat)(vs:List Aa):List Aa:=cs.take off++vs++cs.drop (off+n)
def Jg(owned:List Nat)(off n:Nat)(A5:Bool):List Nat:=
 let rest:=owned.filter λo=> !(off<=o&&o<off+n)
 if A5 then off::rest else rest
def BV.Gg(C:CB)(U:Av)(K:Av->IT):BV->IT
 | .pure ws=>K (U.BW ws)
 | .op p args dst A5 dem=> .op p args λv=>K ((U.BA dem).put dst (if A5 then .A5 v else .val v))
 | .box n v d=> .cells n v λcs=>K (U.set d (.box 0 (Lq n cs) []))
 | .closure fn a b fz d=>K ((U.BW (fz.map λ(s,cs)=>(s,.val (.A9 cs)))).set d (.val (.func fn a b)))
 | .Ge s off n v A5 dem ver cells owned=> .cells n v λvs=>K ((U.BA dem).set s (.box (ver+1) (Lr cells off n (Lq n vs)) (Jg owned off n A5)))
 | .load n p dst=> .load n p λv=>K (U.put dst (.val v))
 | .store n p v=> .store n p v (K U)
 | .alloc n v dst=> .alloc n v λp=>K (U.put dst (.val p))
 | .call f args dst=> .call f args λr=>K (U.put dst (if C.Et f then .A5 r else .val r))
 | .B7 g args dst=> .B7 g args λr=>K (U.put dst (.val r))
 | .AW f args dst=> .AW f args λr=>K (U.put dst (.val r))
 | .GO dst=> .GO λm=>K (U.put dst (.val m))
 | .Dt m k v=> .Dt m k v (K U)
 | .Fy z ok m k dst=> .Fy z ok m k λv=>K (U.put dst (.val v))
 | .make z b zero l c dst=> .make z b zero l c λv=>K (U.put dst (.val v))
 | .Eh z b s x dst dem=> .Eh z b s x λv=>K ((U.BA dem).put dst (.val v))
 | .Dm z b s x dst=> .Dm z b s x λv=>K (U.put dst (.val v))
 | .CM z b s x dst dem=> .CM z b s x λv=>K ((U.BA dem).put dst (.A5 v))
 | .B8 s dst=> .B8 s λv=>K (U.put dst (.val v))
 | .Oa v dst=> .Mn v λv=> .op .Oa [v] λu=>K (U.put dst (.val u))
 | .mem o args dst=> .mem o args λv=>K (U.put dst (if o.gH then .undef else .val v))
def BV.news:BV->List Nat
 | .pure ws=>ws.filterMap λ(s,x)=>match x with| .box 0 _ _=>some s|_=>none
 | .box _ _ d=>[d]
 | .closure _ _ _ fz _=>fz.map (·.1)
 |_=>[]
inductive gK where
 |Gr (run:Bool)
 |wB (Ps:Nat) (v:Aa) (want:Bool)
 |rN
def DV(ops:List Oper)(U:Av)(o:Oper):gK:=
 match o.guard with
 |none=> .Gr true
 |some (j,want)=>match(ops[j]?).bind (·.dst) with
  |some s=>match U.at s with
   | .Hm b=> .Gr (b==want)
   | .val v=> .wB s v want
   | .skip=> .Gr false
   |_=> .rN
  |none=> .rN
def Th(C:CB)(fid:FuncId)(ops:List Oper)(U:Av)(o:Oper)(K:Av->IT):IT:=
 match CG C fid ops U o with
 |some r=>r.Gg C (U.drop r.news) K
 |none=> .fail
def JZ(C:CB)(fid:FuncId)(ops:List Oper)(U:Av)(o:Oper)(K:Av->IT):IT:=
 match DV ops U o with
 | .Gr true=>Th C fid ops U o K
 | .Gr false=>K (U.put o.dst .skip)
 | .wB s v want=>
  let t:=if want then Th C fid ops (U.set s (.Hm true)) o K else K (Av.put (U.set s (.Hm true)) o.dst .skip)
  let e:=if want then K (Av.put (U.set s (.Hm false)) o.dst .skip) else Th C fid ops (U.set s (.Hm false)) o K
  .Ah v t e
 | .rN=> .fail
def QI(C:CB)(fid:FuncId)(ops:List Oper):List Oper->Av->(Av->IT)->IT
 |[],U,K=>K U
 |o::rest,U,K=>JZ C fid ops U o λU=>QI C fid ops rest U K
end Go.Am
end
section
namespace Go.Am
def Oper.KU(o:Oper):List Nat:=o.after.toList.filterMap λe=>if Region.binds .any e then some e.on else none
def fH(i:Nat):Nat:=2^i
def E6(BE:List Nat):List Oper->List Nat
 |[]=>BE
 |o::rest=>E6 (BE++[(Oper.KU o).foldl (λm e=>m|||fH e|||BE.getD e 0) 0]) rest
def Ls(ops:List Oper):List Nat:=E6 [] ops
def BO(an:List Nat)(i j:Nat):Bool:=(an.getD j 0).testBit i
def Zv(o:Oper):Bool:=
 match o.op with
 | .call c=>(match c.callee with| .builtin .copy| .builtin .clear=>true| .builtin _=>false|_=>true)
 | .store _ _ _| .insert _ _ _ _| .mapUpdate _ _ _ _| .makeMap _ _| .makeSlice _ _ _| .mapEntry _ _ _| .entryStore _ _ _ _=>true
 |_=>false
def Lt(all:List Oper)(BE:List Nat):List Oper->List Nat
 |[]=>BE
 |o::rest=>Lt all (BE++[(Oper.KU o).foldl (λm e=>Nat.max m (BE.getD e 0+(match all[e]? with|some x=>if Zv x then 1 else 0|none=>0))) 0]) rest
def Vt(ops:List Oper):List Nat:=
 let st:=Lt ops [] ops
 let idx:=List.range ops.length
 let I8:=λi=>match ops[i]? with|some o=>Zv o|none=>false
 (List.range (ops.length+1)).flatMap λs=>(idx.filter λi=>st.getD i 0==s&& !I8 i)++(idx.filter λi=>st.getD i 0==s&&I8 i)
structure FP where
 rs:List Nat
 wf:List Nat
 hl:Bool
 I8:Bool
 news:List Nat
 lr:List Nat
 J0:Bool
 deriving Inhabited
def EP(xs:List Operand):List Nat:=xs.filterMap λ| .tmp t=>some t|_=>none
def GQ(C:CB)(U:Av)(x:Operand):Option Nat:=
 match CF C U x with
 |some (.Hq s _ _ _ _)=>some s
 |_=>none
def Dw(C:CB)(U:Av)(o:Oper):List Nat:=
 match o.op with
 | .load _ x=>(GQ C U x).toList
 | .store _ x _=>(GQ C U x).toList
 | .makeFunc _ _ captured=>EP captured.toList
 |_=>[]
def BV.wf:BV->List Nat
 | .pure ws=>ws.map (·.1)
 | .op _ _ dst _ dem=>dst.toList++(dem.map (·.1)).toList
 | .box _ _ d=>[d]
 | .closure _ _ _ fz d=>d::fz.map (·.1)
 | .Ge s _ _ _ _ dem _ _ _=>s::(dem.map (·.1)).toList
 | .load _ _ dst| .alloc _ _ dst| .call _ _ dst| .B7 _ _ dst| .AW _ _ dst| .GO dst| .Fy _ _ _ _ dst| .make _ _ _ _ _ dst| .B8 _ dst| .Oa _ dst| .Dm _ _ _ _ dst| .mem _ _ dst=>dst.toList
 | .Eh _ _ _ _ dst dem| .CM _ _ _ _ dst dem=>dst.toList++(dem.map (·.1)).toList
 | .store _ _ _| .Dt _ _ _=>[]
def BV.hl:BV->Bool
 | .load _ _ _| .Fy _ _ _ _ _=>true
 |_=>false
def BV.I8:BV->Bool
 | .store _ _ _| .alloc _ _ _| .call _ _ _| .B7 _ _ _| .GO _| .Dt _ _ _| .make _ _ _ _ _ _| .Eh _ _ _ _ _ _| .B8 _ _| .Oa _ _| .Dm _ _ _ _ _| .CM _ _ _ _ _ _| .mem _ _ _=>true
 |_=>false
def Cr(ops:List Oper)(o:Oper):List Nat:=
 match o.guard with
 |none=>[]
 |some (j,_)=>((ops[j]?).bind (·.dst)).toList
def La(xs:List BQ):List Nat:=xs.filterMap λ| .Cc t _=>some t|_=>none
def BV.QJ:BV->List Nat
 | .pure ws=>La (ws.map (·.2))
 |_=>[]
def BV.J0(U:Av)(r:BV):Bool:=
 Gf U r.news&&match r with
  | .load _ _ (some d)=>decide (d<U.length)
  | .load _ _ none| .Fy _ _ _ _ _| .closure _ _ _ (_::_) _=>false
  |_=>true
def KV(C:CB)(ops:List Oper)(U:Av)(o:Oper)(r:Option BV):FP:=
 match r with
 |none=>{rs:=Cr ops o,wf:=o.dst.toList,hl:=false,I8:=false,news:=[],lr:=La (o.dst.toList.map U.at),J0:=true}
 |some r=>{rs:=Cr ops o++EP o.op.operands.toList++Dw C U o,wf:=r.wf++o.dst.toList,hl:=r.hl,I8:=r.I8,news:=r.news,lr:=La ((r.wf++o.dst.toList).map U.at)++r.QJ,J0:=r.J0 U}
def Kw(a b:List Nat):Bool:=a.any λx=>b.contains x
def FP.apart(x y:FP):Bool:= !Kw x.wf (y.rs++y.wf)&& !Kw y.wf x.rs&& !Kw x.lr y.news&& !Kw y.lr x.news
def ID(x y:FP):Bool:=x.J0&&y.J0&&x.apart y&& !(x.I8&&y.I8)&& !(x.I8&&y.hl)
def Lu(n:Nat)(an:List Nat)(ann:List (Nat×FP)):Bool:=
 go ann&&(List.range n).all (λi=>(ann.map (·.1)).contains i)
where
 go:List (Nat×FP)->Bool
  |[]=>true
  |(i,f)::rest=>rest.all (λ(j,g)=>i != j&& !BO an j i&&(BO an i j||ID f g))&&go rest
structure EK where
 idx:Nat
 n:Option Nat
 p:Aa
 v:Aa
def Jh(an:List Nat)(i:Nat):List EK->IT->IT
 |[],t=>t
 |f::fs,t=>if BO an f.idx i then Jh an i fs t else .load f.n f.p λv=> .same f.v v (Jh an i fs t)
def F1(i:Nat)(r:BV)(U:Av)(fl:List EK):List EK:=
 match r with
 | .load n p (some d)=>match U.at d with
  | .val v=>{idx:=i,n,p,v}::fl
  |_=>fl
 |_=>fl
def Ji(ops:List Oper)(i:Nat):Bool:=ops.any λo=>match o.guard with|some (j,_)=>j==i|none=>false
def QK(d:Option Nat)(U:Av)(K:Av->IT):IT:=
 match d with
 |none=>K U
 |some d=>match U.at d with
  | .val v=> .Ah v (K (U.set d (.Hm true))) (K (U.set d (.Hm false)))
  |_=>K U
def IE(C:CB)(fid:FuncId)(ops:List Oper)(an:List Nat):List Nat->List (Nat×FP)->List EK->Av->(Av->IT)->IT
 |[],ann,_,U,K=>if Lu ops.length an ann.reverse then K U else .fail
 |i::rest,ann,fl,U,K=>
  match ops[i]? with
  |none=> .fail
  |some o=>match DV ops U o with
   | .Gr true=>match CG C fid ops U o with
    |none=> .fail
    |some r=>r.Gg C (U.drop r.news) λU'=>
     let next:=QK (if Ji ops i then o.dst else none) U' λU''=>IE C fid ops an rest ((i,KV C ops U o (some r))::ann) (F1 i r U' fl) U'' K
     if r.I8 then Jh an i fl next else next
   | .Gr false=>IE C fid ops an rest ((i,KV C ops U o none)::ann) fl (U.put o.dst .skip) K
   |_=> .fail
def Cl(ops:List Oper)(o:Oper):List Nat:=
 o.dst.toList++match o.op with
  | .move (.tmp s)=>(match o.dst with|some d=>if Tg ops d then[s] else[]|none=>[])
  | .assign (.tmp s)=>[s]
  | .store _ _ (.tmp s)=>[s]
  | .call c=>(match c.callee with| .builtin .append=>EP c.args.toList|_=>[])
  | .makeFunc _ _ captured=>EP captured.toList
  |_=>[]
def Bj:Code->List Nat
 | .region _ ops _=>ops.toList.flatMap (Cl ops.toList)
 | .seq a b=>Bj a++Bj b
 | .cond _ a b=>Bj a++Bj b
 | .block _ b=>Bj b
 | .loop b=>Bj b
 | .scope b=>Bj b
 |_=>[]
def AK:Code->List Nat
 | .region _ ops _=>ops.toList.flatMap (Cr ops.toList)
 | .seq a b=>AK a++AK b
 | .cond (.tmp s) a b=>s::(AK a++AK b)
 | .cond _ a b=>AK a++AK b
 | .block _ b=>AK b
 | .loop b=>AK b
 | .scope b=>AK b
 |_=>[]
def Av.clear(U:Av):List Nat->Av
 |[]=>U
 |s::ss=>Av.clear (U.set s .undef) ss
def CV:Code->Option Nat
 | .region id _ _=>some id
 | .seq a b=>(CV a).orElse λ_=>CV b
 | .cond _ a b=>(CV a).orElse λ_=>CV b
 | .block _ b| .loop b| .scope b=>CV b
 |_=>none
def Lv(U:Av):List (Nat×Sh)->Option (List Aa)
 |[]=>some []
 |(s,sh)::l=>
  let v:=match sh,U.at s with
   | .val,x=>x.Da
   | .A5,.A5 v=>some v
   | .box n ow,.box _ cs GJ=>if cs.length=n/\ow.all (GJ.contains ·) then some (.agg cs) else none
   |_,_=>none
  match v,Lv U l with
  |some v,some vs=>some (v::vs)
  |_,_=>none
def MJ:BQ->Nat
 | .box ver _ _=>ver
 |_=>0
def Ee(vs:List Aa):List (Nat×Sh)->Nat->Av->(Av->IT)->IT
 |[],_,U,K=>K U
 |(s,.val)::l,i,U,K=>Ee vs l (i+1) (U.set s (.val (vs.getD i .nilIface))) K
 |(s,.A5)::l,i,U,K=>Ee vs l (i+1) (U.set s (.A5 (vs.getD i .nilIface))) K
 |(s,.box n ow)::l,i,U,K=> .cells n (vs.getD i .nilIface) λcs=>Ee vs l (i+1) (U.set s (.box (MJ (U.at s)+1) (Lq n cs) ow)) K
def Pu(U:Av)(U':Av)(l:List (Nat×Sh)):Bool:=
 (List.range U.length).all λs=>match U.at s with
  | .box ver _ _=>(l.map (·.1)).contains s||(match U'.at s with| .box CH _ _=>CH==ver|_=>false)
  | .Cc _ _=>(l.map (·.1)).contains s||(match U'.at s with| .Cc _ _=>true|_=>false)
  |_=>true
def J1(U0:Av)(l:List (Nat×Sh))(x:C7)(U':Av):IT:=
 if Pu U0 U' l then match Lv U' l with
  |some vs=> .ret x vs
  |none=> .fail
 else .fail
def Ti(l:List (Nat×Sh))(ws:List Nat)(U:Av):Bool:=l.all λ(s,_)=>ws.contains s||(match U.at s with| .box _ _ _=>true|_=>false)
def No(ops:List Oper):Bool:=ops.zipIdx.all λ(o,i)=>(Oper.KU o).all λe=>decide (e<i)
def Jj(C:CB)(fid:FuncId)(ops:List Oper)(draw:Bool)(U:Av)(K:Av->IT):IT:=
 if draw then(if No ops then IE C fid ops (Ls ops) (Vt ops) [] [] U K else .fail) else QI C fid ops ops U K
def Np(key:Nat)(U:Av)(ws:List Nat)(l:List (Nat×Sh))(t:(C7->Av->IT)->IT)(K:C7->Av->IT):IT:=
 let U0:=U.clear ws
 if Ti l ws U then .CU key (t λx U'=>J1 U0 l x U') λx vs=>Ee vs l 0 U0 λU'=>K x U' else .fail
def Zw(K:C7->Av->IT):C7->Av->IT
 | .normal,_=> .fail
 | .exit i,U=>K (.exit i) U
 | .ret,U=>K .ret U
def CI(C:CB)(fid:FuncId):Code->Av->(C7->Av->IT)->IT
 | .skip,U,K=>K .normal U
 | .region id ops draw,U,K=>match C.Zt fid id with
  |none=>Jj C fid ops.toList draw U (K .normal)
  |some l=>Np (200000+id) U (ops.toList.flatMap (Cl ops.toList)++ops.toList.flatMap (Cr ops.toList)) l (λK=>Jj C fid ops.toList draw U (K .normal)) K
 | .seq a b,U,K=>CI C fid a U λx U'=>match x with
  | .normal=>CI C fid b U' K
  | .exit i=>K (.exit i) U'
  | .ret=>K .ret U'
 | .cond c a b,U,K=>match c,BK C U c with
  |_,some (.Hm true)=>CI C fid a U K
  |_,some (.Hm false)=>CI C fid b U K
  | .tmp s,some (.val v)=>match C.Zs fid s with
   |none=> .Ah v (CI C fid a (U.set s (.Hm true)) K) (CI C fid b (U.set s (.Hm false)) K)
   |some l=>Np (100000+s) U (s::(Bj a++Bj b++AK a++AK b)) l (λK=> .Ah v (CI C fid a (U.set s (.Hm true)) K) (CI C fid b (U.set s (.Hm false)) K)) K
  |_,_=> .fail
 | .block id b,U,K=>CI C fid b U λx U'=>match x with
  | .normal=>K .normal U'
  | .exit i=>if i=id then K .normal U' else K (.exit i) U'
  | .ret=>K .ret U'
 | .loop b,U,K=>
  let l:=C.aH fid ((CV b).getD 0)
  let ws:=Bj b++AK b
  let U0:=U.clear ws
  if Ti l ws U then match Lv U l with
   |none=> .fail
   |some init=> .loop ((CV b).getD 0) init (λvs=>Ee vs l 0 U0 λσh=>CI C fid b σh λx U'=>J1 U0 l x U') λx vs=>Ee vs l 0 U0 λU'=>Zw K x U'
  else .fail
 | .exit id,U,K=>K (.exit id) U
 | .ret,U,K=>K .ret U
 | .scope b,U,K=>CI C fid b U K
 | .label _,U,K=>K .normal U
 |_,_,_=> .fail
def CP(C:CB)(U:Av):List ResultVar->List Aa->(List Aa->IT)->IT
 |[],BE,K=>K BE.reverse
 | .tmp t::rs,BE,K=>match(U.at t).Da with
  |some v=>CP C U rs (v::BE) K
  |none=> .fail
 | .cell a t::rs,BE,K=>match Cg C.P t,CF C U (.tmp a) with
  |some none,some (.Hq _ o _ cs _)=>if o<cs.length then CP C U rs (cs.getD o .nilIface::BE) K else .fail
  |some (some n),some (.Hq _ o _ cs _)=>if o+n<=cs.length then CP C U rs (.agg ((cs.drop o).take n)::BE) K else .fail
  |some n,some (.ptr p)=> .load n p λv=>CP C U rs (v::BE) K
  |_,_=> .fail
def H4(U:Av):List ResultVar->Bool
 |[.tmp t]=>match U.at t with| .A5 _=>true|_=>false
 |_=>false
def QL(C:CB)(U:Av):List (Nat×Nat)->IT->IT
 |[],t=>t
 |(s,off)::l,t=>match(U.at s).Da with
  |some p=> .DJ off p (QL C U l t)
  |none=> .fail
def Hs:List Aa->List Aa->(List Aa->IT)->IT
 |[],BE,K=>K BE.reverse
 |v::vs,BE,K=> .Mn v λv=>Hs vs (v::BE) K
def Kx:List Aa->IT
 |[v]=> .ret .ret [v]
 |vs=> .ret .ret [.tuple vs]
def Oc(C:CB)(fid:FuncId)(fn:Func)(U:Av):IT:=
 if C.Et fid&& !H4 U fn.results.toList then .fail
 else QL C U (C.Tf fid) (CP C U fn.results.toList [] λvs=>if C.Te fid then Hs vs [] Kx else Kx vs)
def Tj(C:CB)(fid:FuncId)(fn:Func)(args:List Aa):IT:=
 match fn.body with
 |none=> .fail
 |some c=>CI C fid c (args.map .val++List.replicate (fn.ntmps-args.length) .undef) λx U=>match x with
  | .normal=>Oc C fid fn U
  | .exit _=> .fail
  | .ret=>Oc C fid fn U
def gL(C:CB)(fid:FuncId)(args:List Aa):IT:=
 match C.P.funcs[B4 fid]? with
 |some fn=>if fn.name== "runtime.NumGoroutine" then .fail else Tj C fid fn args
 |none=> .fail
def AH(C:CB)(fid:FuncId)(args:List Aa):IT:=
 match C.aI fid with
 |some p=>p args
 |none=>gL C fid args
abbrev g(l:List Aa)(i:Nat):Aa:=l.getD i .nilIface
abbrev I(n:Int):Aa:= .int .i64 n
abbrev S(s:Ag):Aa:= .str s
abbrev tt:Aa:= .bool true
abbrev ff:Aa:= .bool false
abbrev CB.run(C:CB):Nat->IT->Ab->Option Ep:=IT.run (AH C)
end Go.Am
end
end
section
namespace Go.Am
def IT.Ei{fn:FuncId->List Aa->IT}{rec gM:IT->Ab->Option Ep}(hr:∀t h r,rec t h=some r->gM t h=some r):
  ∀(t:IT) (h:Ab) (r:Ep),IT.step fn rec t h=some r->IT.step fn gM t h=some r:=by
 intro t;induction t with
 |ret x vs=>intro h r hh;simpa[IT.step] using hh
 |fail=>intro h r hh;simp[IT.step] at hh
 |op o args k ih=>
  intro h r hh;simp only[IT.step] at hh⊢;split at hh;.exact ih _ _ _ hh
  .cases hh
 |cells n v k ih=>
  intro h r hh;simp only[IT.step] at hh⊢;split at hh;.rename_i hc;rw[if_pos hc];exact ih _ _ _ hh
  .cases hh
 |Ah c t e iht ihe=>
  intro h r hh;simp only[IT.step] at hh⊢;split at hh;.exact iht _ _ hh
  .exact ihe _ _ hh
  .cases hh
 |load n p k ih=>
  intro h r hh;simp only[IT.step] at hh⊢;split at hh;.exact ih _ _ _ hh
  .cases hh
 |store n p v k ih=>
  intro h r hh;simp only[IT.step] at hh⊢;split at hh;.exact ih _ _ hh
  .cases hh
 |alloc n v k ih=>
  intro h r hh;simp only[IT.step] at hh⊢;split at hh;.exact ih _ _ _ hh
  .cases hh
 |call f args k ih=>
  intro h r hh;simp only[IT.step] at hh⊢;split at hh;.rename_i h1;rw[hr _ _ _ h1];exact ih _ _ _ hh
  .cases hh
 |B7 g args k ih=>
  intro h r hh;simp only[IT.step] at hh⊢;split at hh
  .rename_i f a ht;split at hh;.rename_i h1;simp only[hr _ _ _ h1];exact ih _ _ _ hh
   .cases hh
  .cases hh
 |AW f args k ih=>
  intro h r hh;simp only[IT.step] at hh⊢;split at hh
  .rename_i FX;rw[if_pos FX];split at hh
   .rename_i h1;rw[hr _ _ _ h1];split at hh;.rename_i SZ;simp only[SZ,Bc];exact ih _ _ _ hh
    .cases hh
   .cases hh
  .cases hh
 |loop key init body k ihb ihk=>
  intro h r hh;simp only[IT.step] at hh⊢;split at hh;.rename_i h1;rw[ihb _ _ _ h1];exact hr _ _ _ hh
  .rename_i x vs h1 hne hx;rw[ihb _ _ _ hx];cases x<;>first|exact ihk _ _ _ _ hh|exact absurd rfl hne
  .cases hh
 |CU key t k iht ihk=>
  intro h r hh;simp only[IT.step] at hh⊢;split at hh;.rename_i h1;rw[iht _ _ h1];exact ihk _ _ _ _ hh
  .cases hh
 |same a b k ih=>
  intro h r hh;simp only[IT.step] at hh⊢;split at hh;.rename_i hc;rw[if_pos hc];exact ih _ _ hh
  .cases hh
 |GO k ih=>intro h r hh;simp only[IT.step] at hh⊢;exact ih _ _ _ hh
 |Dt m key v k ih=>
  intro h r hh;simp only[IT.step] at hh⊢;split at hh;.exact ih _ _ hh
  .cases hh
 |Fy z ok m key k ih=>
  intro h r hh;simp only[IT.step] at hh⊢;split at hh;.exact ih _ _ _ hh
  .cases hh
 |make size bytes zero len cap k ih=>
  intro h r hh;simp only[IT.step] at hh⊢;split at hh;.exact ih _ _ _ hh
  .cases hh
 |Eh size bytes s x k ih=>
  intro h r hh;simp only[IT.step] at hh⊢;split at hh;.exact ih _ _ _ hh
  .cases hh
 |B8 s k ih=>
  intro h r hh;simp only[IT.step] at hh⊢;split at hh;.exact ih _ _ _ hh
  .cases hh
 |Mn v k ih=>
  intro h r hh;simp only[IT.step] at hh⊢;split at hh;.exact ih _ _ _ hh
  .cases hh
 |DJ off p k ih=>
  intro h r hh;simp only[IT.step] at hh⊢;split at hh;.exact ih _ _ hh
  .cases hh
 |Dm size bytes s x k ih=>
  intro h r hh;simp only[IT.step] at hh⊢;split at hh;.exact ih _ _ _ hh
  .cases hh
 |CM size bytes s x k ih=>
  intro h r hh;simp only[IT.step] at hh⊢;split at hh;.exact ih _ _ _ hh
  .cases hh
 |mem o args k ih=>
  intro h r hh;simp only[IT.step] at hh⊢;split at hh;.exact ih _ _ _ hh
  .cases hh
 |QF f args k ih=>
  intro h r hh;simp only[IT.step] at hh⊢;split at hh
  .rename_i h1;rw[hr _ _ _ h1];split at hh;.rename_i SZ;simp only[SZ,Bc];exact ih _ _ _ hh
   .cases hh
  .cases hh
def IT.Tk{fn:FuncId->List Aa->IT}:∀(n:Nat) (t:IT) (h:Ab) (r:Ep),IT.run fn n t h=some r->IT.run fn (n+1) t h=some r:=by
 intro n;induction n with
 |zero=>intro t h r hh;simp[IT.run] at hh
 |succ n ih=>intro t h r hh;exact IT.Ei (λt h r=>ih t h r) t h r hh
def IT.DA{fn:FuncId->List Aa->IT}{n m:Nat}(hnm:n<=m){t:IT}{h:Ab}{r:Ep}(hh:IT.run fn n t h=some r):IT.run fn m t h=some r:=by
 induction hnm with
 |refl=>exact hh
 |step _ ih=>exact IT.Tk _ _ _ _ ih
abbrev FB:=C7->List Aa->Ab->Prop
def W(C:CB)(t:IT)(Q:FB)(h:Ab):Prop:=∃n x vs h',C.run n t h=some (x,vs,h')/\Q x vs h'
section
variable{C:CB}{Q:FB}{h:Ab}
def W.mono{t:IT}{Q':FB}(hw:W C t Q h)(hq:∀x vs h',Q x vs h'->Q' x vs h'):W C t Q' h:=
 let⟨n,x,vs,h',hr,q⟩:=hw;⟨n,x,vs,h',hr,hq _ _ _ q⟩
def Zx{x:C7}{vs:List Aa}(hq:Q x vs h):W C (.ret x vs) Q h:=⟨1,x,vs,h,rfl,hq⟩
def Bf{t:IT}(hh:∃n x vs h',IT.step (AH C) (C.run n) t h=some (x,vs,h')/\Q x vs h'):W C t Q h:=
 let⟨n,x,vs,h',hr,q⟩:=hh;⟨n+1,x,vs,h',hr,q⟩
def W.succ{t:IT}(hh:W C t Q h):∃n x vs h',IT.step (AH C) (C.run n) t h=some (x,vs,h')/\Q x vs h':=by
 obtain⟨n,x,vs,h',hr,q⟩:=hh;cases n with
 |zero=>simp[CB.run,IT.run] at hr
 |succ n=>exact⟨n,x,vs,h',hr,q⟩
def gN{o:Mm}{args:List Aa}{k:Aa->IT}{v:Aa}(hv:AA o args=some v)(hw:W C (k v) Q h):W C (.op o args k) Q h:=by obtain⟨n,x,vs,h',hr,q⟩:=hw.succ;exact Bf ⟨n,x,vs,h',by simp only[IT.step,hv];exact hr,q⟩
def QM{n:Nat}{v:Aa}{k:List Aa->IT}(hv:v.cells.length=n)(hw:W C (k v.cells) Q h):W C (.cells n v k) Q h:=by obtain⟨m,x,vs,h',hr,q⟩:=hw.succ;exact Bf ⟨m,x,vs,h',by simp only[IT.step,hv,Bc];exact hr,q⟩
def QN{b:Bool}{t e:IT}(ht:b=true->W C t Q h)(he:b=false->W C e Q h):W C (.Ah (.bool b) t e) Q h:=by
 cases b with
 |true=>obtain⟨m,x,vs,h',hr,q⟩:=(ht rfl).succ;exact Bf ⟨m,x,vs,h',by simp only[IT.step];exact hr,q⟩
 |false=>obtain⟨m,x,vs,h',hr,q⟩:=(he rfl).succ;exact Bf ⟨m,x,vs,h',by simp only[IT.step];exact hr,q⟩
def Tl{n:Option Nat}{p v:Aa}{k:Aa->IT}(hv:Ck h n p=some v)(hw:W C (k v) Q h):W C (.load n p k) Q h:=by obtain⟨m,x,vs,h',hr,q⟩:=hw.succ;exact Bf ⟨m,x,vs,h',by simp only[IT.step,hv];exact hr,q⟩
def QP{n:Nat}{p v:Aa}{k:IT}{h1:Ab}(hv:Dy h n p v=some h1)(hw:W C k Q h1):W C (.store n p v k) Q h:=by obtain⟨m,x,vs,h',hr,q⟩:=hw.succ;exact Bf ⟨m,x,vs,h',by simp only[IT.step,hv];exact hr,q⟩
def QQ{n:Nat}{v:Aa}{k:Aa->IT}(hv:v.cells.length=n)(hw:W C (k (.ptr (some (h.length,0)))) Q (h++[.cells v.cells])):W C (.alloc n v k) Q h:=by obtain⟨m,x,vs,h',hr,q⟩:=hw.succ;exact Bf ⟨m,x,vs,h',by simp only[IT.step,Lj,hv,Bc];exact hr,q⟩
def aL{a b:Aa}{k:IT}(hv:Aa.beq a b=true)(hw:W C k Q h):W C (.same a b k) Q h:=by obtain⟨m,x,vs,h',hr,q⟩:=hw.succ;exact Bf ⟨m,x,vs,h',by simp only[IT.step,hv,Bc];exact hr,q⟩
def Tm{k:Aa->IT}(hw:W C (k (.map (some h.length))) Q (h++[.map []])):W C (.GO k) Q h:=by obtain⟨m,x,vs,h',hr,q⟩:=hw.succ;exact Bf ⟨m,x,vs,h',by simp only[IT.step];exact hr,q⟩
def Tn{m key v:Aa}{k:IT}{h1:Ab}(hv:MG h m key v=some h1)(hw:W C k Q h1):W C (.Dt m key v k) Q h:=by obtain⟨n,x,vs,h',hr,q⟩:=hw.succ;exact Bf ⟨n,x,vs,h',by simp only[IT.step,hv];exact hr,q⟩
def To{z:Aa}{ok:Bool}{m key v:Aa}{k:Aa->IT}(hv:MH h z ok m key=some v)(hw:W C (k v) Q h):W C (.Fy z ok m key k) Q h:=by obtain⟨n,x,vs,h',hr,q⟩:=hw.succ;exact Bf ⟨n,x,vs,h',by simp only[IT.step,hv];exact hr,q⟩
def Tp{size bytes:Nat}{zero:List Aa}{len cap v:Aa}{k:Aa->IT}{h1:Ab}(hv:Lk h size bytes zero len cap=some (h1,v))(hw:W C (k v) Q h1):W C (.make size bytes zero len cap k) Q h:=by obtain⟨n,x,vs,h',hr,q⟩:=hw.succ;exact Bf ⟨n,x,vs,h',by simp only[IT.step,hv];exact hr,q⟩
def QR{size bytes:Nat}{s x v:Aa}{k:Aa->IT}{h1:Ab}(hv:JV h size bytes s x=some (h1,v))(hw:W C (k v) Q h1):W C (.Eh size bytes s x k) Q h:=by obtain⟨n,x,vs,h',hr,q⟩:=hw.succ;exact Bf ⟨n,x,vs,h',by simp only[IT.step,hv];exact hr,q⟩
def Lw{s v:Aa}{k:Aa->IT}{h1:Ab}(hv:EN h s=some (h1,v))(hw:W C (k v) Q h1):W C (.B8 s k) Q h:=by obtain⟨n,x,vs,h',hr,q⟩:=hw.succ;exact Bf ⟨n,x,vs,h',by simp only[IT.step,hv];exact hr,q⟩
def Zy{u v:Aa}{k:Aa->IT}{h1:Ab}(hv:IB h u=some (h1,v))(hw:W C (k v) Q h1):W C (.Mn u k) Q h:=by obtain⟨n,x,vs,h',hr,q⟩:=hw.succ;exact Bf ⟨n,x,vs,h',by simp only[IT.step,hv];exact hr,q⟩
def QS{off:Nat}{p:Aa}{k:IT}{h1:Ab}(hv:Ll h off p=some h1)(hw:W C k Q h1):W C (.DJ off p k) Q h:=by obtain⟨n,x,vs,h',hr,q⟩:=hw.succ;exact Bf ⟨n,x,vs,h',by simp only[IT.step,hv];exact hr,q⟩
def Tq{size bytes:Nat}{s x v:Aa}{k:Aa->IT}{h1:Ab}(hv:Fz h size bytes s x=some (h1,v))(hw:W C (k v) Q h1):W C (.Dm size bytes s x k) Q h:=by obtain⟨n,x,vs,h',hr,q⟩:=hw.succ;exact Bf ⟨n,x,vs,h',by simp only[IT.step,hv];exact hr,q⟩
def MK{size bytes:Nat}{s x v:Aa}{k:Aa->IT}(hv:MI h size bytes s x=some v)(hw:W C (k v) Q h):W C (.CM size bytes s x k) Q h:=by obtain⟨n,x,vs,h',hr,q⟩:=hw.succ;exact Bf ⟨n,x,vs,h',by simp only[IT.step,hv];exact hr,q⟩
def Zz{o:S6}{args:List Aa}{v:Aa}{k:Aa->IT}{h1:Ab}(hv:Je o h args=some (h1,v))(hw:W C (k v) Q h1):W C (.mem o args k) Q h:=by obtain⟨n,x,vs,h',hr,q⟩:=hw.succ;exact Bf ⟨n,x,vs,h',by simp only[IT.step,hv];exact hr,q⟩
def Ev(C:CB)(f:FuncId)(args:List Aa)(h:Ab)(R:Aa->Ab->Prop):Prop:=
 W C (AH C f args) (λx vs h'=>x= .ret/\∃r,vs=[r]/\R r h') h
def Ev.mono{f:FuncId}{args:List Aa}{R R':Aa->Ab->Prop}(hw:Ev C f args h R)(hr:∀r h',R r h'->R' r h'):Ev C f args h R':=
 W.mono hw λ_ _ _ ⟨hx,r,hv,hR⟩=>⟨hx,r,hv,hr _ _ hR⟩
def aM{f:FuncId}{args:List Aa}{k:Aa->IT}(hc:Ev C f args h λr h1=>W C (k r) Q h1):W C (.call f args k) Q h:=by obtain⟨n,x,vs,h1,hr,hx,r,hv,m,x',DB,h',DC,q⟩:=hc;subst hx;subst hv;refine Bf ⟨max n m,x',DB,h',?_,q⟩;have ZA:=IT.DA (Dq n m) hr;have h2:=IT.DA (AX (C9 n m) (GH _)) DC;simp only[IT.step];simp only[CB.run] at*;rw[ZA];exact h2
def Vu{f:FuncId}{args:List Aa}{k:Aa->IT}(ha:args.all Aa.FW=true)(hc:Ev C f args [] λr _=>r.FW=true/\W C (k r) Q h):W C (.AW f args k) Q h:=by obtain⟨n,x,vs,h1,hr,hx,r,hv,FX,m,x',DB,h',DC,q⟩:=hc;subst hx;subst hv;refine Bf ⟨max n m,x',DB,h',?_,q⟩;have ZA:=IT.DA (Dq n m) hr;have h2:=IT.DA (AX (C9 n m) (GH _)) DC;simp only[IT.step,ha,Bc];simp only[CB.run] at*;rw[ZA];simp only[FX,Bc];exact h2
def Tr{key:Nat}{t:IT}{k:C7->List Aa->IT}(hw:W C t (λx vs h1=>W C (k x vs) Q h1) h):W C (.CU key t k) Q h:=by obtain⟨n,x,vs,h1,hr,fI⟩:=hw.succ;obtain⟨m,x',DB,h',DC,q⟩:=fI.succ;refine Bf ⟨max n m,x',DB,h',?_,q⟩;have e1:=IT.Ei (λt h r=>IT.DA (fn:=AH C) (Dq n m)) _ _ _ hr;have e2:=IT.Ei (λt h r=>IT.DA (fn:=AH C) (C9 n m)) _ _ _ DC;simp only[IT.step];simp only[CB.run] at*;rw[e1];exact e2
end
end Go.Am
end
