/- Lemmas -/
import Derived.Orders
import Derived.Laws.StructEq
import Derived.Laws.Slices
import Derived.Deep.AppendSrc
import Derived.Great.BuildSlice
import Derived.Laws.IdiomStrings
set_option linter.all false
open Option renaming some→zz,none→zx
open List renaming length→zy,replicate→y0,range→xx
open Bool renaming false→zr,true→zp
open Go.Value renaming slice→zq,int→zj,string→zi,bool→zd,pointer→zc,func→z4,nilIface→z9,nilFunc→yw,map→yo,agg→xm
open Go.Fn renaming func→z5
open Go.Op renaming bytesLess→wj,unary→vr
open Go.IntKind renaming i64→yb,u8→vv
open Go.Operand renaming tmp→wv,const→w4
theorem zv{p q:Prop}(h:p)(e:p->q:=by intro h;simpa using h):q:=e h
def Aa:=@if_neg
def Ae:=@if_pos
def Af:=@Nat.le_refl
def Ag:=@decide_eq_false
def Ah:=@decide_eq_true
def Ai:=@not_false_eq_true
def An:=@List.getElem?_append_left
def Ao:=@List.length_map
def Ap:=@List.getElem?_eq_getElem
def Aq:=@List.getElem?_eq_some_iff
def As:=@List.length_append
def Au:=@false_implies
def Av:=@List.getElem?_set_ne
def Aw:=@eq_true
def Ax:=@List.mem_singleton
def Ay:=@true_implies
def Az:=@List.length_take
def AA:=@List.mem_append
def AD:=@not_true_eq_false
def AG:=@List.take_succ_eq_append_getElem
def AI:=@List.drop_eq_getElem_cons
def AL:=@List.take_of_length_le
def AO:=@List.append_assoc
def AQ:=@Nat.lt_or_ge
def hJ(n m:Nat):(n<m/\(n:Int)<m)\/(m<=n/\¬(n:Int)<m):=by omega
def AT:=@List.getElem?_set_self
def AU:=@List.drop_of_length_le
def AV:=@List.getElem_mem
def AW:=@List.Sublist.refl
def AZ:=@Nat.zero_le
def A0:=@List.mem_cons
def A3:=@List.getD_eq_getElem?_getD
def A5:=@List.length_singleton
def A6:=@Int.toNat_natCast
def Bf:=@Array.getElem?_eq_some_iff
def Bg:=@List.length_cons
def Bn:=@List.map_cons
def Bp:=@List.length_drop
def Bq:=@List.forall_mem_cons
def Br:=@List.append_nil
def Bs:=@Bool.and_eq_true
def Bu:=@List.getElem?_append_right
def Bv:=@List.mem_map
def Bw:=@List.length_set
def Bx:=@List.take_length
def BC:=@Nat.le_trans
def BE:=@Nat.add_zero
def BH:=@List.length_nil
def BJ:=@List.map_append
def BN:=@Option.some.injEq
def BO:=@List.set_append_right
def BQ:=@List.mem_of_mem_take
def BR:=@ne_eq
def BU:=@List.mem_of_mem_drop
def BV:=@if_true
def B0:=@List.set_eq_take_append_cons_drop
def B1:=@Nat.zero_add
def B4:=@List.nil_append
def B8:=@List.take_sublist
def Cb:=@Option.map_some
def Ch:=@Nat.add_mul
def Ci:=@List.size_toArray
def Cj:=@decide_eq_true_eq
def Cp:=@List.getElem?_map
def Cr:=@Nat.zero_lt_one
def Cw:=@List.getElem?_take
def Cx:=@congrArg
def Cy:=@Bool.false_eq_true
def Cz:=@List.mem_filterMap
def CA:=@List.nodup_cons
def CB:=@List.mem_append_right
def CE:=@Nat.min_eq_left
def CF:=@List.getElem?_drop
def CG:=@Array.length_toList
def CH:=@eq_self
def CI:=@Decidable.not_not
def CR:=@Option.bind_some
def CS:=@List.cons_append
def CU:=@List.take_append_drop
def C1:=@List.map_nil
def C2:=@List.nodup_append
def C4:=@List.getElem_map
def C7:=@List.mem_of_getElem?
def C8:=@List.getElem?_of_mem
def Dh:=@List.take_append_of_le_length
def Dj:=@Nat.succ_pos
def Dk:=@List.flatten_cons
def Du:=@List.length_pos_iff
def Dy:=@Nat.sub_self
def DA:=@List.mem_append_left
def DF:=@List.not_mem_nil
def DG:=@decide_eq_decide
def DR:=@List.eq_nil_of_length_eq_zero
def DT:=@Nat.lt_irrefl
def DW:=@if_false
def DY:=@List.mem_or_eq_of_mem_set
def D3:=@decide_true
def D4:=@of_decide_eq_true
def D7:=@List.getElem?_take_of_lt
def D8:=@Ne.symm
def Ec:=@decide_false
def Ed:=@List.find?_cons
def Er:=@Nat.mul_le_mul_right
def Es:=@Array.getElem?_eq_getElem
def EE:=@List.all_eq_true
def EF:=@Option.getD_some
def EG:=@List.drop_length
def EY:=@Nat.add_sub_cancel
def EZ:=@Option.some.inj
def E0:=@Bool.false_or
def E1:=@List.map_take
def Fa:=@List.map_set
def Ft:=@Int.toNat_of_nonneg
def Fu:=@List.findIdx?_eq_some_iff_findIdx_eq
def Fw:=@List.reverse_cons
def Fz:=@List.filterMap_append
def FJ:=@List.drop_drop
def FL:=@List.take_take
def FM:=@List.take_left
def FU:=@List.cons.injEq
def FY:=@List.filter_append
def Gd:=@Nat.le_succ
def GD:=@List.take_zero
def GN:=@List.mem_filter
def GO:=@Nat.one_mul
def GP:=@Nat.mul_one
def Hc:=@List.length_replicate
def Hm:=@Nat.le_add_right
def HK:=@List.drop_zero
def HR:=@List.getElem?_cons_zero
def Im:=@List.take_succ_cons
def Io:=@Array.toList_append
def Iy:=@List.any_cons
def IC:=@Nat.le_max_right
def ID:=@List.filter_cons
def IV:=@Array.ext'
def IW:=@List.set_getElem_self
def Jb:=@Nat.le_max_left
def Jc:=@List.take_left'
def Jk:=@bne_self_eq_false
def Jl:=@List.reverse_reverse
def Jm:=@Int.le_refl
def JA:=@List.map_drop
def JB:=@List.getElem_append_left
def JO:=@List.length_reverse
def JP:=@List.filterMap_cons
def Ka:=@Array.eq_empty_of_size_eq_zero
def Kb:=@Nat.le_mul_of_pos_right
def Kd:=@Bool.not_false
def Ke:=@Int.eq_ofNat_of_zero_le
def KK:=@Nat.lt_of_lt_of_le
def KL:=@Bool.true_or
def KN:=@Int.not_lt
def KZ:=@List.drop_left'
def K0:=@or_false
def K6:=@Prod.mk.injEq
def Lp:=@List.getElem?_eq_none
def Lq:=@List.singleton_append
def Lr:=@List.dropLast_eq_take
def LF:=@Array.getD_eq_getD_getElem?
def LG:=@Array.size_append
def Mb:=@Array.replicate_succ
def Mc:=@Array.replicate_zero
def Mn:=@List.any_eq_true
def Mv:=@List.extract_eq_take_drop
def Mw:=@Classical.byContradiction
def Mx:=@List.getLast?_eq_getElem?
def My:=@Decidable.byContradiction
def MM:=@List.toList_toArray
def MN:=@List.replicate_succ
def MO:=@not_or
def MP:=@List.append_toArray
def MQ:=@List.reverse_append
def Np:=@Bool.or_false
def NC:=@List.set_cons_zero
def NJ:=@List.length_eq_zero_iff
def OC:=@Nat.le_of_eq
def OD:=@and_true
def OE:=@true_and
def OF:=@Option.map_eq_some_iff
def OG:=@List.push_toArray
def OH:=@List.reverse_singleton
def OI:=@List.set_set
def Pd:=@Nat.eq_of_beq_eq_true
def Pr:=@Array.toList_map
def Ps:=@Nat.lt_succ_self
def Qm:=@List.drop_append_of_le_length
def Rb:=@UInt8.toNat_inj
def Rr:=@List.take_set_of_le
def Rs:=@List.flatten_append
def Rt:=@List.drop_succ_cons
def Ru:=@List.drop_take_self
def Rv:=@List.mem_map_of_mem
def RH:=@Nat.add_comm
def RI:=@Nat.ne_of_lt
def RJ:=@Nat.le_of_lt
def RK:=@List.any_nil
def S3:=@Nat.eq_zero_or_pos
def S4:=@List.nodup_nil
def S5:=@List.find?_eq_none
def S6:=@Int.fdiv_eq_ediv_of_nonneg
def TS:=@Option.filter_eq_some_iff
def TT:=@List.mem_of_find?_eq_some
def Uj:=@List.ext_getElem?
def Uk:=@List.find?_append
def U8:=@Bool.bne_true
def WS:=@decide_eq_false_iff_not
def WT:=@List.drop_append
def WU:=@List.reverse_nil
def WV:=@Option.bind_eq_some_iff
def WW:=@Option.getD_none
def WX:=@Nat.add_sub_cancel_left
def WY:=@List.map_reverse
def X6:=@Nat.zero_mul
def YV:=@Bool.or_eq_true
def YW:=@List.any_append
def Zp:=@List.length_filter_le
def iJ:=@Array.toList_extract
def iK:=@and_self
def iL:=@Bool.false_and
def iM:=@List.length_dropLast
def iT:=@false_and
def j2:=@List.drop_set_of_lt
def j3:=@List.map_congr_left
def j6:=@List.getD_cons_zero
def j7:=@List.getD_cons_succ
def j8:=@List.filter_eq_self
def m9:=@Bool.not_true
def nA:=@Bool.true_and
def nB:=@Nat.add_assoc
def nC:=@List.all_cons
def wQ:=@Array.ext_getElem?
def wR:=@Option.isSome_some
def wY:=@List.findIdx?_eq_some_iff_getElem
def fy:=@List.getLast?_nil
def gy:=@Array.getElem?_setIfInBounds_ne
def g_:=@List.takeWhile_append_dropWhile
def tr:=@List.zipIdx_cons
def tw:=@List.take_append
def tz:=@List.mem_flatMap
def Ě:=@List.foldl_cons
def ě:=@Nat.not_lt_zero
def Ĝ:=@Bool.eq_iff_iff
def İ:=@eq_comm
def aCH:=@beq_iff_eq
def aCI:=@Bool.and_false
def aCJ:=@Bool.bne_false
def aCV:=@List.getElem_append_right
def aGB:=@List.take_add
def aGC:=@List.eq_of_mem_replicate
def aGD:=@List.drop_nil
def aGE:=@List.take_nil
def aGF:=@Int.lt_irrefl
def aGG:=@Int.ofNat.inj
def aIc:=@List.getElem?_cons_succ
def aId:=@and_false
def aLy:=@List.length_eq_one_iff
def aLz:=@or_self
def aLA:=@List.getElem_cons_zero
def aMg:=@List.contains_iff_mem
def aMh:=@Array.getElem?_toList
def aMi:=@List.getElem_set_self
def aQ8:=@List.range_eq_range'
def aQ9:=@List.mem_cons_of_mem
def aRa:=@List.pairwise_append
def aRb:=@List.set_append_left
def aR2:=@Nat.add_sub_cancel'
def aR3:=@Array.toList_zipIdx
def aR4:=@Array.getElem?_push
def aWo:=@List.zip_cons_cons
def aWp:=@Array.foldl_toList
def aWq:=@List.pairwise_cons
def aWr:=@Option.isSome_none
def aWs:=@Option.toList_some
def aWt:=@List.map_singleton
def aWu:=@List.set_cons_succ
def aXW:=@List.pairwise_map
def aXY:=@List.any_eq_false
def aX0:=@List.getElem_take
abbrev al(s:String):List UInt8:=s.toUTF8.data.toList
abbrev a2t:List UInt8:=al "attributeName attributeType baseFrequency basePr"++al "ofile calcMode clipPathUnits diffuseConstant edg"++al "eMode filterUnits glyphRef gradientTransform gra"++al "dientUnits kernelMatrix kernelUnitLength keyPoin"++al "ts keySplines keyTimes lengthAdjust limitingCone"++al "Angle markerHeight markerUnits markerWidth maskC"++al "ontentUnits maskUnits numOctaves pathLength patt"++al "ernContentUnits patternTransform patternUnits po"++al "intsAtX pointsAtY pointsAtZ preserveAlpha preser"++al "veAspectRatio primitiveUnits refX refY repeatCou"++al "nt repeatDur requiredExtensions requiredFeatures"++al " specularConstant specularExponent spreadMethod "++al "startOffset stdDeviation stitchTiles surfaceScal"++al "e systemLanguage tableValues targetX targetY tex"++al "tLength viewBox viewTarget xChannelSelector yCha"++al "nnelSelector zoomAndPan"
abbrev a2u:List UInt8:=al "address applet area article aside base basefont "++al "bgsound blockquote body br button caption center"++al " col colgroup dd details dir div dl dt embed fie"++al "ldset figcaption figure footer form frame frames"++al "et h1 h2 h3 h4 h5 h6 head header hgroup hr html "++al "iframe img input keygen li link listing main mar"++al "quee menu meta nav noembed noframes noscript obj"++al "ect ol p param plaintext pre script search secti"++al "on select source style summary table tbody td te"++al "mplate textarea tfoot th thead title tr track ul"++al " wbr xmp"
abbrev a2v:List UInt8:=al "altGlyph altGlyphDef altGlyphItem animateColor a"++al "nimateMotion animateTransform clipPath feBlend f"++al "eColorMatrix feComponentTransfer feComposite feC"++al "onvolveMatrix feDiffuseLighting feDisplacementMa"++al "p feDistantLight feDropShadow feFlood feFuncA fe"++al "FuncB feFuncG feFuncR feGaussianBlur feImage feM"++al "erge feMergeNode feMorphology feOffset fePointLi"++al "ght feSpecularLighting feSpotLight feTile feTurb"++al "ulence foreignObject glyphRef linearGradient rad"++al "ialGradient textPath"
abbrev a2w:List UInt8:=al "base basefont bgsound link meta noframes script "++al "style template title"
abbrev a2x:List UInt8:=al "address article aside blockquote center details "++al "dialog dir div dl fieldset figcaption figure foo"++al "ter header hgroup main menu nav ol search sectio"++al "n summary ul"
abbrev a2y:List UInt8:=al "html"
abbrev a2z:List UInt8:=al "template"
abbrev a2A:List UInt8:=al "address article aside blockquote button center d"++al "etails dialog dir div dl fieldset figcaption fig"++al "ure footer header hgroup listing main menu nav o"++al "l pre search section summary ul"
abbrev a2B:List UInt8:=al "body"
abbrev a2C:List UInt8:=al "address article aside blockquote center details "++al "dialog dir div dl fieldset figcaption figure foo"++al "ter header hgroup main menu nav ol p search sect"++al "ion summary ul"
abbrev a2D:List UInt8:=al "frameset"
abbrev a2E:List UInt8:=al "caption col colgroup frame head tbody td tfoot th thead tr"
abbrev a2F:List UInt8:=al "b big code em font i s small strike strong tt u"
abbrev a2G:List UInt8:=al "button"
abbrev a2H:List UInt8:=[120,108,105,110,107,58,97,99,116,117,97,116,101,32,120,108,105,110,107,58,97,114,99,114,111,108,101,32,120,108,105,110,107,58,104,114,101,102,32,120,108,105,110,107,58,114,111,108,101,32,120,108,105,110,107,58,115,104,111,119,32,120,108,105,110,107,58,116,105,116,108,101,32,120,108,105,110,107,58,116,121,112,101]
abbrev a2I:List UInt8:=al "head"
abbrev a2J:List UInt8:=al "noscript"
abbrev a2K:List UInt8:=al "table"
abbrev a2L:List UInt8:=al "h1 h2 h3 h4 h5 h6"
abbrev a2M:List UInt8:=al "applet marquee object"
abbrev a2N:List UInt8:=al "basefont bgsound link meta noframes style"
abbrev a2O:List UInt8:=al "applet caption html marquee object table td template th"
abbrev a2P:List UInt8:=al "nobr"
abbrev a2Q:List UInt8:=al "dd dt li optgroup option p rb rp rt rtc"
abbrev a2R:List UInt8:=al "form"
abbrev a2S:List UInt8:=al "title"
abbrev a2T:List UInt8:=al "plaintext"
abbrev a2U:List UInt8:=al "textarea"
abbrev a2V:List UInt8:=al "caption colgroup tbody tfoot thead"
abbrev a2W:List UInt8:=al "image"
abbrev a2X:List UInt8:=al "caption colgroup tbody td tfoot th thead tr"
abbrev a2Y:List UInt8:=al "optgroup option"
abbrev a2Z:List UInt8:=al "script"
abbrev a23:List UInt8:=al "base basefont bgsound link meta"
abbrev a25:List UInt8:=al "select"
abbrev a26:List UInt8:=al "area br embed img image keygen wbr input param source track hr"
abbrev a27:List UInt8:=al "input"
abbrev a29:List UInt8:=al "annotation-xml"
abbrev a3a:List UInt8:=al "option"
abbrev a3b:List UInt8:=al "a b big code em font i nobr s small strike strong tt u"
abbrev a3c:List UInt8:=[45,47,47,87,51,67,47,47,68,84,68,32,72,84,77,76,32,69,120,112,101,114,105,109,101,110,116,97,108,32,49,57,57,54,48,55,49,50,47,47]
abbrev a3d:List UInt8:=al "table tbody tfoot thead tr"
abbrev a3e:List UInt8:=al "head body html br"
abbrev a3f:List UInt8:=[45,47,47,87,51,67,47,47,68,84,68,32,72,84,77,76,32,69,120,112,101,114,105,109,101,110,116,97,108,32,57,55,48,52,50,49,47,47]
abbrev a3g:List UInt8:=al "desc foreignObject title"
abbrev a3h:List UInt8:=al "iframe"
abbrev a3i:List UInt8:=[45,47,47,87,51,67,47,47,68,84,68,32,72,84,77,76,32,52,46,48,49,32,84,114,97,110,115,105,116,105,111,110,97,108,47,47]
abbrev a3j:List UInt8:=[45,47,47,87,51,67,47,47,68,84,68,32,72,84,77,76,32,52,46,48,32,84,114,97,110,115,105,116,105,111,110,97,108,47,47]
abbrev a3k:List UInt8:=[45,47,47,87,51,79,47,47,68,84,68,32,87,51,32,72,84,77,76,32,83,116,114,105,99,116,32,51,46,48,47,47,69,78,47,47]
abbrev a3l:List UInt8:=[45,47,87,51,67,47,68,84,68,32,72,84,77,76,32,52,46,48,32,84,114,97,110,115,105,116,105,111,110,97,108,47,69,78]
abbrev a3m:List UInt8:=[45,47,47,87,51,67,47,47,68,84,68,32,72,84,77,76,32,52,46,48,49,32,70,114,97,109,101,115,101,116,47,47]
abbrev a3n:List UInt8:=al "area br embed img keygen wbr"
abbrev a3o:List UInt8:=al "noembed"
abbrev a3p:List UInt8:=[45,47,47,87,51,67,47,47,68,84,68,32,72,84,77,76,32,52,46,48,32,70,114,97,109,101,115,101,116,47,47]
abbrev a3q:List UInt8:=[45,47,47,87,51,67,47,47,68,84,68,32,72,84,77,76,32,51,32,49,57,57,53,45,48,51,45,50,52,47,47]
abbrev a3r:List UInt8:=al "textarea xmp iframe noembed plaintext"
abbrev a3s:List UInt8:=al "caption"
abbrev a3t:List UInt8:=al "ruby"
abbrev a3u:List UInt8:=[97,112,112,108,105,99,97,116,105,111,110,47,120,104,116,109,108,43,120,109,108]
abbrev a3v:List UInt8:=[45,47,47,73,69,84,70,47,47,68,84,68,32,72,84,77,76,32,76,101,118,101,108,32]
abbrev a3w:List UInt8:=[45,47,47,73,69,84,70,47,47,68,84,68,32,72,84,77,76,32,83,116,114,105,99,116]
abbrev a3x:List UInt8:=[45,47,47,87,51,79,47,47,68,84,68,32,87,51,32,72,84,77,76,32,51,46,48,47,47]
abbrev a3y:List UInt8:=al "colgroup"
abbrev a3z:List UInt8:=[120,109,108,110,115,58,120,108,105,110,107]
abbrev a3A:List UInt8:=al "noframes style"
abbrev a3B:List UInt8:=al "pre listing"
abbrev a3C:List UInt8:=[45,47,47,73,69,84,70,47,47,68,84,68,32,72,84,77,76,32,50,46,49,69,47,47]
abbrev a3D:List UInt8:=al "html table template"
abbrev a3E:List UInt8:=al "xmp"
abbrev a3F:List UInt8:=al "foreignObject"
abbrev a3G:List UInt8:=[120,108,105,110,107,58,97,114,99,114,111,108,101]
abbrev a3H:List UInt8:=al "head noscript"
abbrev a3I:List UInt8:=al "hidden"
abbrev a3J:List UInt8:=al "optgroup"
abbrev a3K:List UInt8:=al "param source track"
abbrev a3L:List UInt8:=[120,108,105,110,107,58,97,99,116,117,97,116,101]
abbrev a3M:List UInt8:=al "mi mn mo ms mtext"
abbrev a3N:List UInt8:=al "img"
abbrev a3O:List UInt8:=al "head template body html br"
abbrev a3P:List UInt8:=[45,47,47,73,69,84,70,47,47,68,84,68,32,72,84,77,76,32,50,46,48]
abbrev a3Q:List UInt8:=[45,47,47,87,51,67,47,47,68,84,68,32,87,51,32,72,84,77,76,47,47]
abbrev a3R:List UInt8:=al "tfoot"
abbrev a3S:List UInt8:=[45,47,47,87,51,67,47,47,68,84,68,32,72,84,77,76,32,51,46,50]
abbrev a3T:List UInt8:=al "tbody"
abbrev a3U:List UInt8:=al "thead"
abbrev a3V:List UInt8:=[120,108,105,110,107,58,116,105,116,108,101]
abbrev a3W:List UInt8:=[45,47,47,73,69,84,70,47,47,68,84,68,32,72,84,77,76,32,51]
abbrev a3X:List UInt8:=[45,47,47,73,69,84,70,47,47,68,84,68,32,72,84,77,76,47,47]
abbrev a3Y:List UInt8:=al "type"
abbrev a3Z:List UInt8:=[120,109,108,58,115,112,97,99,101]
abbrev a30:List UInt8:=al "xmlns"
abbrev a32:List UInt8:=al "address"
abbrev a33:List UInt8:=[120,108,105,110,107,58,104,114,101,102]
abbrev a34:List UInt8:=[120,108,105,110,107,58,114,111,108,101]
abbrev a35:List UInt8:=[120,108,105,110,107,58,115,104,111,119]
abbrev a36:List UInt8:=[120,108,105,110,107,58,116,121,112,101]
abbrev a38:List UInt8:=al "definitionurl"
abbrev a39:List UInt8:=al "template body html br"
abbrev a4a:List UInt8:=al "rtc"
abbrev a4b:List UInt8:=[120,109,108,58,108,97,110,103]
abbrev a4c:List UInt8:=al "math svg"
abbrev a4d:List UInt8:=al "definitionURL"
abbrev a4e:List UInt8:=al "dd dt"
abbrev a4f:List UInt8:=al "button listing pre"
abbrev a4g:List UInt8:=al "body html br"
abbrev a4h:List UInt8:=al "col"
abbrev a4i:List UInt8:=al "blockquote"
abbrev a4j:List UInt8:=al "figcaption"
abbrev a4k:List UInt8:=al "marquee"
abbrev a4l:List UInt8:=al "math"
abbrev a4m:List UInt8:=[116,101,120,116,47,104,116,109,108]
abbrev a4n:List UInt8:=al "xlink"
abbrev a4o:List UInt8:=al "address div p"
abbrev a4p:List UInt8:=al "fieldset"
abbrev a4q:List UInt8:=al "applet"
abbrev a4r:List UInt8:=al "encoding"
abbrev a4s:List UInt8:=al "source"
abbrev a4t:List UInt8:=al "noframes"
abbrev a4u:List UInt8:=al "basefont"
abbrev a4v:List UInt8:=al "object"
abbrev a4w:List UInt8:=al "rb rtc rp rt"
abbrev a4x:List UInt8:=al "listing"
abbrev a4y:List UInt8:=al "noscript br"
abbrev a4z:List UInt8:=al "bgsound"
abbrev a4A:List UInt8:=al "details"
abbrev a4B:List UInt8:=al "section"
abbrev a4C:List UInt8:=al "summary"
abbrev a4D:List UInt8:=al "arcrole"
abbrev a4E:List UInt8:=al "article"
abbrev a4F:List UInt8:=al "td th"
abbrev a4G:List UInt8:=al "actuate"
abbrev a4H:List UInt8:=al "div"
abbrev a4I:List UInt8:=al "p li dd dt"
abbrev a4J:List UInt8:=al "param"
abbrev a4K:List UInt8:=al "track"
abbrev a4L:List UInt8:=al "figure"
abbrev a4M:List UInt8:=al "footer"
abbrev a4N:List UInt8:=al "hgroup"
abbrev a4O:List UInt8:=al "center"
abbrev a4P:List UInt8:=al "dialog"
abbrev a4Q:List UInt8:=al "header"
abbrev a4R:List UInt8:=al "html body"
abbrev a4S:List UInt8:=al "body html"
abbrev a4T:List UInt8:=al "search"
abbrev a4U:List UInt8:=al "rb rtc"
abbrev a4V:List UInt8:=al "svg"
abbrev a4W:List UInt8:=al "desc"
abbrev a4X:List UInt8:=al "style"
abbrev a4Y:List UInt8:=al "li dd dt"
abbrev a4Z:List UInt8:=al "ol ul"
abbrev a41:List UInt8:=al "rp rt"
abbrev a42:List UInt8:=al "aside"
abbrev a43:List UInt8:=al "space"
abbrev a44:List UInt8:=al "href"
abbrev a45:List UInt8:=al "role"
abbrev a47:List UInt8:=al "show"
abbrev a48:List UInt8:=al "link"
abbrev a5a:List UInt8:=al "menu"
section
variable{p:Prop}
theorem Ab(h:p:=by omega):p:=h
theorem AF(h:p:=by simp):p:=h
theorem AR(h:p:=by decide):p:=h
theorem Bi(h:p:=by decide +kernel):p:=h
theorem DO(h:p:=by simp only; omega):p:=h
theorem ES(h:p:=by simp; omega):p:=h
theorem Kl(h:p:=by simp[Go.Op.operands]):p:=h
theorem Uu(h:p:=by simp[Go.Value.cells,Go.Value.oneCell']):p:=h
end
section
section
namespace Go.Am
abbrev Aj:=List UInt8
inductive Ad where
 |bool (b:Bool)
 |int (k:IntKind) (n:Int)
 |str (s:Aj)
 |ptr (p:Option (Nat×Nat))
 |CO (cells:List Ad)
 |sl (size:Nat) (AH:List (List Ad))
 |slnil
 |FT (size:Nat)
 |CK (id off len size:Nat)
 |map (m:Option Nat)
 |func (fn:Fn) (first captured:List Ad)
 |nilFunc
 |iface (t:TypeId) (v:Ad)
 |nilIface
 |agg (cells:List Ad)
 |tuple (vs:List Ad)
 deriving Inhabited
mutual
def Ad.beq:Ad->Ad->Bool
 | .bool a,.bool b=>a==b
 | .int k a,.int l b=>k==l&&a==b
 | .str a,.str b=>a==b
 | .ptr a,.ptr b=>a==b
 | .CO a,.CO b=>Ad.Vh a b
 | .sl n a,.sl m b=>n==m&&Ad.Vi a b
 | .slnil,.slnil=>zp
 | .FT a,.FT b=>a==b
 | .CK a b c d,.CK a' b' c' e=>a==a'&&b==b'&&c==c'&&d==e
 | .map a,.map b=>a==b
 | .func f a b,.func f' a' b'=>f==f'&&Ad.Vh a a'&&Ad.Vh b b'
 | .nilFunc,.nilFunc=>zp
 | .iface t a,.iface t' a'=>t==t'&&Ad.beq a a'
 | .nilIface,.nilIface=>zp
 | .agg a,.agg b=>Ad.Vh a b
 | .tuple a,.tuple b=>Ad.Vh a b
 |_,_=>zr
def Ad.Vh:List Ad->List Ad->Bool
 |[],[]=>zp
 |a::x,b::y=>Ad.beq a b&&Ad.Vh x y
 |_,_=>zr
def Ad.Vi:List (List Ad)->List (List Ad)->Bool
 |[],[]=>zp
 |a::x,b::y=>Ad.Vh a b&&Ad.Vi x y
 |_,_=>zr
end
def Ad.cells:Ad->List Ad
 | .agg a=>a
 | .tuple _=>[]
 |v=>[v]
inductive DH where
 |cells (cs:List Ad)
 |map (es:List (Ad×Ad))
 |CV
 deriving Inhabited
abbrev Ak:=List DH
inductive YX where
 |copy (size:Nat)
 |clear (size:Nat) (zero:List Ad)
 |H_ (size:Nat) (lo hi:Bool)
 |h_ (size:Nat)
 |aMj (t:TypeId)
 |I_ (zero:Ad) (ok:Bool)
 |Xc (zero:Ad)
 |nD (zero:Ad)
 |Qo
 |ı
 |Ĳ
 |Ul (g:Ak->List Ad->Option (Ak×Ad))
def YX.aMk:YX->Bool
 | .h_ _| .clear _ _| .Qo| .ı=>zp
 |_=>zr
inductive Fb where
 |undef
 |skip
 |val (v:Ad)
 |RO (b:Bool)
 |BD (v:Ad)
 |box (ver:Nat) (cells:List Ad) (BD:List Nat)
 |Ge (s off:Nat)
 deriving Inhabited
abbrev B5:=List Fb
def B5.at(U:B5)(s:Nat):Fb:=U.getD s .undef
def Fb.Jt:Fb->Option Ad
 | .val v| .BD v=>zz v
 | .RO b=>zz (.bool b)
 |_=>zx
inductive FK where
 |b|i|s
 deriving DecidableEq,Inhabited
inductive NK where
 |sl|fn|mp
 deriving DecidableEq,Inhabited
inductive Pw where
 |int (op:BinOp)
 |str (op:BinOp)
 |beq (neg:Bool)
 |geq (neg:Bool) (ks:List FK)
 |peq (neg:Bool)
 |GH (neg:Bool) (k:NK)
 |un (op:UnOp)
 |conv(k:IntKind)
 |pick
 |part (off:Nat) (n:Option Nat)
 |aIf (len size:Nat) (n:Option Nat)
 |iU
 |Mo (off:Nat)
 |EM (size:Nat)
 |X7 (len size:Nat)
 |len (isStr:Bool)
 |append (size bytes:Nat)
 |LK (size:Nat) (isStr lo hi:Bool)
 |ext (i:Nat)
 |K8
 |Df (size:Nat)
 |FT (size:Nat)
 |Fc (zero:List Ad) (places:List (Nat×Nat))
 |Nr (isMax:Bool)
 |aQ
 |s2b
 |i2s
 deriving Inhabited
def RP:Value->Option Ad
 | zd b=>zz (.bool b)
 | zj k n=>zz (.int k n)
 | zi s=>zz (.str s.data.toList)
 | zc zx=>zz (.ptr zx)
 | zq zx 0 0=>zz .slnil
 | yo zx=>zz (.map zx)
 | z4 d f c=>if f.size=0/\c.size=0 then zz (.func d [] []) else zx
 | yw=>zz .nilFunc
 | z9=>zz .nilIface
 |_=>zx
def NX:List Value->Option (List Ad)
 |[]=>zz []
 |v::c=>match RP v,NX c with
  |zz a,zz d=>zz (a::d)
  |_,_=>zx
def NL:Value->Option Ad
 | xm a=>(NX a.toList).map .agg
 |v=>RP v
def S7:Sem Value->Option Value
 | .pure v=>zz v
 |_=>zx
def AN:Nat:=140737488355328
def hK:AN=140737488355328:=rfl
def t_(d:BinOp)(k:IntKind)(a:Int)(l:IntKind)(b:Int):Option Ad:=
 (S7 (binOp d 0 (zj k a) (zj l b))).bind λv=>match v with
  | zj k n=>zz (.int k n)
  | zd b=>zz (.bool b)
  |_=>zx
def wZ(e:BinOp)(a b:Aj):Option Ad:=
 match e with
 | .add=>if zy a+zy b<=9223372036854775807 then zz (.str (a++b)) else zx
 | .eql=>zz (.bool (a==b))
 | .neq=>zz (.bool (!(a==b)))
 | .lss=>zz (.bool (wj a b))
 | .leq=>zz (.bool (wj a b||a==b))
 | .gtr=>zz (.bool (!(wj a b||a==b)))
 | .geq=>zz (.bool (!(wj a b)))
 |_=>zx
def Ns:FK->Ad->Ad->Option Bool
 | .b,.bool a,.bool b=>zz (a==b)
 | .i,.int k a,.int l b=>if k=l then zz (a==b) else zx
 | .s,.str a,.str b=>zz (a==b)
 |_,_,_=>zx
def EI:List FK->List Ad->List Ad->Option Bool
 |[],[],[]=>zz zp
 |k::d,a::x,b::y=>match Ns k a b,EI d x y with
  |zz e,zz f=>zz (e&&f)
  |_,_=>zx
 |_,_,_=>zx
def ua:Ad->Ad->Option Bool
 | .ptr zx,.ptr b=>zz b.isNone
 | .ptr (zz _),.ptr zx=>zz zr
 | .ptr (zz a),.ptr (zz b)=>if a=b then zz zp else zx
 | .ptr zx,.CO _=>zz zr
 | .CO _,.ptr zx=>zz zr
 |_,_=>zx
def ub:NK->Ad->Ad->Option Bool
 | .sl,.slnil,.slnil=>zz zp
 | .sl,.slnil,.sl _ _=>zz zr
 | .sl,.sl _ _,.slnil=>zz zr
 | .sl,.slnil,.FT _=>zz zr
 | .sl,.FT _,.slnil=>zz zr
 | .sl,.slnil,.CK _ _ _ _=>zz zr
 | .sl,.CK _ _ _ _,.slnil=>zz zr
 | .fn,.nilFunc,.nilFunc=>zz zp
 | .fn,.nilFunc,.func _ _ _=>zz zr
 | .fn,.func _ _ _,.nilFunc=>zz zr
 | .mp,.map zx,.map b=>zz b.isNone
 | .mp,.map (zz _),.map zx=>zz zr
 |_,_,_=>zx
def Gp(b:List Ad)(a:Nat):Option Nat->Option Ad
 |zx=>b[a]?
 |zz n=>if a+n<=zy b then zz (.agg ((b.drop a).take n)) else zx
def N6(n:Int)(len:Nat):Option Nat:=if 0<=n/\n<len then zz n.toNat else zx
def Fv(n:Int)(a:Nat):Option Nat:=if 0<=n/\n<=a then zz n.toNat else zx
def En(lo c:Bool)(len:Nat)(a:List Ad):Option (Nat×Nat):=
 match lo,c with
 |zr,zr=>match a with
  |[]=>zz (0,len)
  |_=>zx
 |zr,zp=>match a with
  |[.int _ h]=>(Fv h len).map λh=>(0,h)
  |_=>zx
 |zp,zr=>match a with
  |[.int _ l]=>(Fv l len).map λl=>(l,len)
  |_=>zx
 |zp,zp=>match a with
  |[.int _ l,.int _ h]=>(Fv h len).bind λh=>(Fv l h).map λl=>(l,h)
  |_=>zx
def OP:List (List Ad)->Option Aj
 |[]=>zz []
 |[.int vv n]::a=>(OP a).map λl=>n.toNat.toUInt8::l
 |_=>zx
def Cs(s:Aj):List (List Ad):=s.map λb=>[.int vv b.toNat]
def Ee(a b:Nat)(s:Ad)(AH:List (List Ad)):Option Ad:=
 match AH with
 |[]=>match s with
  | .slnil=>zz .slnil
  | .FT z=>if z=a then zz (.FT z) else zx
  | .sl z r=>if z=a then zz (.sl z r) else zx
  |_=>zx
 |AH=>match s with
  | .slnil=>if zy AH*b<=AN then zz (.sl a AH) else zx
  | .FT z=>if z=a/\zy AH*b<=AN then zz (.sl a AH) else zx
  | .sl z r=>if z=a/\(zy r+zy AH)*b<=AN then zz (.sl a (r++AH)) else zx
  |_=>zx
def AP(d:List Ad):List ((Nat×Nat)×Ad)->Option (List Ad)
 |[]=>zz d
 |((b,a),v)::c=>if 0<a/\zy v.cells=a/\b+a<=zy d then AP (d.take b++v.cells++d.drop (b+a)) c else zx
def aGH(k:IntKind)(n:Int):Option Ad:=
 (S7 (vr .xor (zj k n))).bind λv=>match v with
  | zj k n=>zz (.int k n)
  |_=>zx
def aIg:UnOp->Ad->Option Ad
 | .not,.bool b=>zz (.bool (!b))
 | .neg,.int k n=>zz (.int k (k.wrap (0 -n)))
 | .xor,.int k n=>aGH k n
 |_,_=>zx
def aR(p:Ad)(a:Nat):Option Ad:=
 match p with
 | .CO d=>zz (.CO (d.drop a))
 | .ptr (zz (c,o))=>zz (.ptr (zz (c,o+a)))
 |_=>zx
def elemOf(a:Nat)(s:Ad)(i:Int):Option Ad:=
 match s with
 | .sl z AH=>if z=a then(if 0<=i then(AH[i.toNat]?).map .CO else zx) else zx
 | .CK c b len z=>if z=a then(N6 i len).map λi=> .ptr (zz (c,b+i*a)) else zx
 |_=>zx
def lenOf(a:Bool)(s:Ad):Option Ad:=
 match s with
 | .sl _ AH=>if a then zx else zz (.int yb (zy AH))
 | .CK _ _ n _=>if a then zx else zz (.int yb n)
 | .slnil=>if a then zx else zz (.int yb 0)
 | .FT _=>if a then zx else zz (.int yb 0)
 | .str s=>if a then zz (.int yb (zy s)) else zx
 |_=>zx
def Jd(a b:Nat)(s x:Ad):Option Ad:=
 match x with
 | .slnil=>Ee a b s []
 | .FT z=>if z=a then Ee a b s [] else zx
 | .sl z AH=>if z=a then Ee a b s AH else zx
 | .str x=>if a=1 then Ee a b s (Cs x) else zx
 |_=>zx
def Kg(b:Nat)(a lo c:Bool)(s:Ad)(d:List Ad):Option Ad:=
 match s with
 | .str s=>if a then(En lo c (zy s) d).map λ(l,h)=> .str ((s.take h).drop l) else zx
 | .sl z AH=>if a=zr/\z=b then(En lo c (zy AH) d).map λ(l,h)=> .sl z ((AH.take h).drop l) else zx
 | .CK i e n z=>if a=zr/\z=b then(En lo c n d).bind λ(l,h)=>if l<n then zz (.CK i (e+l*z) (h-l) z) else zz (.sl z []) else zx
 | .slnil=>if a then zx else(En lo c 0 d).map λ_=> .slnil
 |_=>zx
def xA:Ad->Option Ad
 | .ptr (zz p)=>zz (.ptr (zz p))
 | .CO e=>zz (.CO e)
 | .func (z5 f) a b=>zz (.func (z5 f) a b)
 |_=>zx
def aS:Ad->Option Ad
 | .sl 1 AH=>(OP AH).map .str
 | .slnil=>zz (.str [])
 |_=>zx
def AB(p:Pw)(d:List Ad):Option Ad:=
 match p with
 | .int u=>match d with
  |[.int k a,.int l b]=>t_ u k a l b
  |_=>zx
 | .str u=>match d with
  |[.str a,.str b]=>wZ u a b
  |_=>zx
 | .beq h=>match d with
  |[.bool a,.bool b]=>zz (.bool ((a==b) != h))
  |_=>zx
 | .geq h y=>match d with
  |[.agg a,.agg b]=>(EI y a b).map λe=> .bool (e != h)
  |_=>zx
 | .peq h=>match d with
  |[a,b]=>(ua a b).map λe=> .bool (e != h)
  |_=>zx
 | .GH h k=>match d with
  |[a,b]=>(ub k a b).map λe=> .bool (e != h)
  |_=>zx
 | .un u=>match d with
  |[v]=>aIg u v
  |_=>zx
 | .conv k=>match d with
  |[.int _ n]=>zz (.int k (k.wrap n))
  |_=>zx
 | .i2s=>match d with
  |[.int _ n]=>zz (.str (Utf8.encode n).data.toList)
  |_=>zx
 | .pick=>match d with
  |[.bool c,a,b]=>zz (if c then a else b)
  |_=>zx
 | .part q n=>match d with
  |[.agg w]=>Gp w q n
  |_=>zx
 | .aIf len f n=>match d with
  |[.agg w,.int _ i]=>(N6 i len).bind λi=>Gp w (i*f) n
  |_=>zx
 | .iU=>match d with
  |[.str s,.int _ i]=>if 0<=i then(s[i.toNat]?).map λb=> .int vv b.toNat else zx
  |_=>zx
 | .Mo q=>match d with
  |[p]=>aR p q
  |_=>zx
 | .EM f=>match d with
  |[s,.int _ i]=>elemOf f s i
  |_=>zx
 | .X7 len f=>match d with
  |[p,.int _ i]=>(N6 i len).bind λi=>aR p (i*f)
  |_=>zx
 | .len j=>match d with
  |[s]=>lenOf j s
  |_=>zx
 | .append f t=>match d with
  |[s,x]=>Jd f t s x
  |_=>zx
 | .LK f j lo z=>match d with
  |s::bp=>Kg f j lo z s bp
  |_=>zx
 | .ext i=>match d with
  |[.tuple vs]=>vs[i]?
  |_=>zx
 | .K8=>match d with
  |[v]=>xA v
  |_=>zx
 | .Df f=>if d.all (λa=>zy a.cells==f)&&decide (zy d*f<=16777216) then zz (.sl f (d.map (·.cells))) else zx
 | .FT f=>if d.isEmpty then zz (.FT f) else zx
 | .Fc zero m=>if zy m=zy d then(AP zero (m.zip d)).map .agg else zx
 | .Nr r=>match d with
  |[.int k a,.int l b]=>if k=l then zz (.int k (if r then(if b>a then b else a) else(if b<a then b else a))) else zx
  |_=>zx
 | .aQ=>match d with
  |[v]=>aS v
  |_=>zx
 | .s2b=>match d with
  |[.str s]=>if zy s<=AN then zz (.sl 1 (Cs s)) else zx
  |_=>zx
inductive Dz where
 |normal
 |exit (id:Nat)
 |ret
 deriving DecidableEq,Inhabited
inductive IT where
 |ret (x:Dz) (vs:List Ad)
 |fail
 |op (o:Pw) (args:List Ad) (k:Ad->IT)
 |cells (n:Nat) (v:Ad) (k:List Ad->IT)
 |Hs (c:Ad) (t e:IT)
 |load (n:Option Nat) (p:Ad) (k:Ad->IT)
 |store (n:Nat) (p v:Ad) (k:IT)
 |alloc (n:Nat) (v:Ad) (k:Ad->IT)
 |call (f:FuncId) (args:List Ad) (k:Ad->IT)
 |Mp (fn:Ad) (args:List Ad) (k:Ad->IT)
 |BG (f:FuncId) (args:List Ad) (k:Ad->IT)
 |loop (key:Nat) (init:List Ad) (body:List Ad->IT) (k:Dz->List Ad->IT)
 |Qp (key:Nat) (t:IT) (k:Dz->List Ad->IT)
 |same (a b:Ad) (k:IT)
 |RQ (k:Ad->IT)
 |Me (m key v:Ad) (k:IT)
 |N7 (zero:Ad) (ok:Bool) (m key:Ad) (k:Ad->IT)
 |make (size bytes:Nat) (zero:List Ad) (len cap:Ad) (k:Ad->IT)
 |M3 (size bytes:Nat) (s x:Ad) (k:Ad->IT)
 |FZ (s:Ad) (k:Ad->IT)
 |RL (v:Ad) (k:Ad->IT)
 |RR (off:Nat) (p:Ad) (k:IT)
 |Kh (size bytes:Nat) (s x:Ad) (k:Ad->IT)
 |HL (size bytes:Nat) (s x:Ad) (k:Ad->IT)
 |mem (o:YX) (args:List Ad) (k:Ad->IT)
 |uc (f:FuncId) (args:List Ad) (k:Ad->IT)
 deriving Inhabited
def Ad.OJ:Ad->Bool
 | .bool _| .int _ _| .str _=>zp
 |_=>zr
def A8(h:Ak)(n:Option Nat):Ad->Option Ad
 | .CO b=>Gp b 0 n
 | .ptr (zz (d,a))=>match h[d]? with
  |zz (.cells b)=>Gp b a n
  |_=>zx
 |_=>zx
def Cv(h:Ak)(n:Nat)(p v:Ad):Option Ak:=
 match p with
 | .ptr (zz (d,a))=>match h[d]? with
  |zz (.cells b)=>if zy v.cells=n/\a+n<=zy b then zz (h.set d (.cells (b.take a++v.cells++b.drop (a+n)))) else zx
  |_=>zx
 |_=>zx
def aT(h:Ak)(n:Nat)(v:Ad):Option (Ak×Ad):=
 if zy v.cells=n then zz (h++[.cells v.cells],.ptr (zz (zy h,0))) else zx
def Vj(s:Aj):List (Ad×Ad)->Option (Option Ad)
 |[]=>zz zx
 |(.str t,v)::es=>if s=t then zz (zz v) else Vj s es
 |_=>zx
def Px(s:Aj)(v:Ad):List (Ad×Ad)->Option (List (Ad×Ad))
 |[]=>zz [(.str s,v)]
 |(.str t,c)::a=>if s=t then zz ((.str s,v)::a) else(Px s v a).map λa=>(.str t,c)::a
 |_=>zx
def TU(h:Ak)(m k v:Ad):Option Ak:=
 match m,k with
 | .map (zz b),.str s=>match h[b]? with
  |zz (.map a)=>(Px s v a).map λa=>h.set b (.map a)
  |_=>zx
 |_,_=>zx
def Xd(h:Ak)(m k:Ad):Option (Option Ad):=
 match m,k with
 | .map zx,.str _=>zz zx
 | .map (zz b),.str s=>match h[b]? with
  |zz (.map c)=>Vj s c
  |_=>zx
 |_,_=>zx
def Rc(h:Ak)(zero:Ad)(ok:Bool)(m k:Ad):Option Ad:=
 (Xd h m k).map λr=>match r with
  |zz v=>if ok then .tuple [v,.bool zp] else v
  |zx=>if ok then .tuple [zero,.bool zr] else zero
def Vk(h:Ak)(a b:Nat)(zero:List Ad):Ad->Ad->Option (Ak×Ad)
 | .int yb n,.int yb c=>if 0<=n/\n<=c/\c.toNat*b<=AN/\zy zero=a then
  zz (h++[.cells (y0 c.toNat zero).flatten],.CK (zy h) 0 n.toNat a) else zx
 |_,_=>zx
def Qq(a:Nat):Ad->Bool
 | .slnil=>zp
 | .FT z=>z==a
 | .sl z []=>z==a
 |_=>zr
def KF(h:Ak)(a b:Nat)(s:Ad):Ad->Option (Ak×Ad)
 | .sl z AH=>if Qq a s then(match AH with
   |[]=>zz (h,s)
   |AH=>if z=a/\zy AH*b<=AN then zz (h++[.cells AH.flatten],.CK (zy h) 0 (zy AH) a) else zx)
  else zx
 | .slnil=>if Qq a s then zz (h,s) else zx
 | .FT z=>if Qq a s&&z==a then zz (h,s) else zx
 |_=>zx
def Ki(h:Ak):Ad->Option (Ak×Ad)
 | .str s=>if zy s<=AN then zz (h++[.cells (s.map λb=> .int vv b.toNat)],.CK (zy h) 0 (zy s) 1) else zx
 |_=>zx
def CP(b:List Ad)(z:Nat):Nat->Nat->List (List Ad)
 |_,0=>[]
 |a,n+1=>(b.drop a).take z::CP b z (a+z) n
section
variable(h:Ak)
def LH:Ad->Option (Ak×Ad)
 | .CK c a n z=>match h[c]? with
  |zz (.cells d)=>if a+n*z<=zy d then zz (h.set c .CV,.sl z (CP d z a n)) else zx
  |_=>zx
 |v=>zz (h,v)
def Mz(b:Nat)(p:Ad):Option Ak:=
 match p with
 | .ptr zx=>zz h
 | .ptr (zz (c,o))=>match h[c]? with
  |zz (.cells f)=>match f[o+b]? with
   |zz v=>(LH h v).bind λ(d,e)=>match d[c]? with
    |zz (.cells i)=>zz (d.set c (.cells (i.set (o+b) e)))
    |_=>zx
   |zx=>zx
  |_=>zx
 |_=>zx
def Hy(a:Nat):Ad->Option (List (List Ad))
 | .slnil=>zz []
 | .FT z=>if z=a then zz [] else zx
 | .sl z AH=>if z=a then zz AH else zx
 | .str s=>if a=1 then zz (Cs s) else zx
 | .CK e c n z=>if z=a then match h[e]? with
   |zz (.cells d)=>if c+n*z<=zy d then zz (CP d z c n) else zx
   |_=>zx
  else zx
 |_=>zx
def Gq(a b:Nat)(s x:Ad):Option (Ak×Ad):=
 match Hy h a x with
 |zx=>zx
 |zz []=>match s with
  | .slnil=>zz (h,s)
  | .FT z=>if z=a then zz (h,s) else zx
  | .CK _ _ _ z=>if z=a then zz (h,s) else zx
  |_=>zx
 |zz AH=>match s with
  | .slnil=>if zy AH*b<=AN then zz (h++[.cells AH.flatten],.CK (zy h) 0 (zy AH) a) else zx
  | .FT z=>if z=a/\zy AH*b<=AN then zz (h++[.cells AH.flatten],.CK (zy h) 0 (zy AH) a) else zx
  | .CK f c n z=>match h[f]? with
   |zz (.cells e)=>if z=a then
     (if c+(n+zy AH)*z<=zy e then zz (h.set f (.cells (e.take (c+n*z)++AH.flatten++e.drop (c+(n+zy AH)*z))),.CK f c (n+zy AH) z)
     else if c=0/\n*z<=zy e/\(n+zy AH)*b<=AN then zz (h.set f .CV++[.cells (e.take (n*z)++AH.flatten)],.CK (zy h) 0 (n+zy AH) z) else zx)
    else zx
   |_=>zx
  |_=>zx
def TV(a b:Nat)(s x:Ad):Option Ad:=(Hy h a x).bind (Ee a b s)
def ud(a:Nat)(d x:Ad):Option (Ak×Ad):=
 match Hy h a x with
 |zx=>zx
 |zz AH=>match d with
  | .slnil=>if zy AH=0 then zz (h,.int yb 0) else zx
  | .CK f b n z=>match h[f]? with
   |zz (.cells e)=>if z=a/\zy AH<=n/\b+n*z<=zy e then zz (h.set f (.cells (e.take b++AH.flatten++e.drop (b+zy AH*z))),.int yb (zy AH)) else zx
   |_=>zx
  |_=>zx
def aU(a:Nat)(zero:List Ad):Ad->Option (Ak×Ad)
 | .slnil=>zz (h,.bool zp)
 | .CK e b n z=>match h[e]? with
  |zz (.cells c)=>if z=a/\zy zero=a/\b+n*z<=zy c then zz (h.set e (.cells (c.take b++(y0 n zero).flatten++c.drop (b+n*z))),.bool zp) else zx
  |_=>zx
 |_=>zx
def xB(b:Nat)(lo e:Bool)(s:Ad)(i:List Ad):Option (Ak×Ad):=
 match s with
 | .CK d a n z=>match h[d]? with
  |zz (.cells c)=>if z=b/\e=zp/\a<=zy c then(En lo e ((zy c-a)/z) i).bind λ(l,r)=>if l<(zy c-a)/z then zz (h,.CK d (a+l*z) (r-l) z) else zx else zx
  |_=>zx
 |_=>zx
end
def aV(a:Nat):List Ad->Bool
 |[s,.int _ l,.int _ r,.int _ m]=>match s with
  | .CK _ _ n z=>z=a&&decide (0<=l)&&decide (l<=r)&&decide (r<=m)&&decide (m<=n)
  | .sl z AH=>z=a&&decide (0<=l)&&decide (l<=r)&&decide (r<=m)&&decide (m<=zy AH)
  |_=>zr
 |_=>zr
def JQ(k:Int):List (Ad×Ad)->Nat->Option (Option (Nat×Ad))
 |[],_=>zz zx
 |(.int yb t,v)::b,i=>if k=t then zz (zz (i,v)) else JQ k b (i+1)
 |_,_=>zx
def Xe(zero:Ad)(ok:Bool):Option (Nat×Ad)->Ad
 |zz (_,v)=>if ok then .tuple [v,.bool zp] else v
 |zx=>if ok then .tuple [zero,.bool zr] else zero
def xC(h:Ak)(zero:Ad)(ok:Bool)(m k:Ad):Option (Ak×Ad):=
 match m,k with
 | .map zx,.int yb _=>zz (h,Xe zero ok zx)
 | .map (zz b),.int yb n=>match h[b]? with
  |zz (.map c)=>(JQ n c 0).map λr=>(h,Xe zero ok r)
  |_=>zx
 |_,_=>zx
def Zq(h:Ak)(zero m k:Ad):Option (Ak×Ad):=
 match m,k with
 | .map (zz c),.int yb n=>match h[c]? with
  |zz (.map a)=>(JQ n a 0).map λr=>match r with
   |zz (i,v)=>(h,.tuple [v,.int yb i])
   |zx=>(h.set c (.map (a++[(k,zero)])),.tuple [zero,.int yb (zy a)])
  |_=>zx
 |_,_=>zx
def Um(k:Aj):List (Ad×Ad)->Nat->Option (Option (Nat×Ad))
 |[],_=>zz zx
 |(.str t,v)::b,i=>if k=t then zz (zz (i,v)) else Um k b (i+1)
 |_,_=>zx
def Zr(h:Ak)(zero m k:Ad):Option (Ak×Ad):=
 match m,k with
 | .map (zz c),.str n=>match h[c]? with
  |zz (.map a)=>(Um n a 0).map λr=>match r with
   |zz (i,v)=>(h,.tuple [v,.int yb i])
   |zx=>(h.set c (.map (a++[(k,zero)])),.tuple [zero,.int yb (zy a)])
  |_=>zx
 |_,_=>zx
def Vl(h:Ak)(m i v:Ad):Option (Ak×Ad):=
 match m,i with
 | .map (zz b),.int yb n=>match h[b]? with
  |zz (.map c)=>if 0<=n then match c[n.toNat]? with
   |zz (k,_)=>zz (h.set b (.map (c.set n.toNat (k,v))),.bool zp)
   |zx=>zx
   else zx
  |_=>zx
 |_,_=>zx
def ue(h:Ak)(m k v:Ad):Option (Ak×Ad):=
 match m,k with
 | .map (zz b),.int yb n=>match h[b]? with
  |zz (.map c)=>match JQ n c 0 with
   |zz zx=>zz (h.set b (.map (c++[(.int yb n,v)])),.bool zp)
   |_=>zx
  |_=>zx
 |_,_=>zx
def S8(h:Ak):List Ad->Option (Ak×Ad)
 |[.slnil,.int yb i,.sl 1 [[.int yb x]]]=>if i=0 then zz (h++[.cells [.int yb x]],.CK (zy h) 0 1 1) else zx
 |[.CK c 0 n 1,.int yb i,.sl 1 [[.int yb x]]]=>match h[c]? with
  |zz (.cells a)=>if 0<=i/\i.toNat<=n/\n<=zy a/\(n+1)*8<=AN then zz (h.set c .CV++[.cells (a.take i.toNat++[.int yb x]++(a.take n).drop i.toNat)],.CK (zy h) 0 (n+1) 1) else zx
  |_=>zx
 |_=>zx
def EH(o:YX)(h:Ak)(a:List Ad):Option (Ak×Ad):=
 match o with
 | .copy b=>match a with
  |[d,x]=>ud h b d x
  |_=>zx
 | .clear b zero=>match a with
  |[s]=>aU h b zero s
  |_=>zx
 | .H_ b lo e=>match a with
  |s::bp=>xB h b lo e s bp
  |_=>zx
 | .h_ b=>if aV b a then zz (h,.bool zp) else zx
 | .aMj t=>match a with
  |[v]=>zz (h,.iface t v)
  |_=>zx
 | .I_ zero ok=>match a with
  |[m,k]=>xC h zero ok m k
  |_=>zx
 | .Xc zero=>match a with
  |[m,k]=>Zq h zero m k
  |_=>zx
 | .nD zero=>match a with
  |[m,k]=>Zr h zero m k
  |_=>zx
 | .Qo=>match a with
  |[m,i,v]=>Vl h m i v
  |_=>zx
 | .ı=>match a with
  |[m,k,v]=>ue h m k v
  |_=>zx
 | .Ĳ=>S8 h a
 | .Ul g=>g h a
def Fq(f:FuncId):FuncId:=if f<=99999 then f else f%100000
def C6:Ad->List Ad->Option (FuncId×List Ad)
 | .func (z5 f) first a,b=>if f<=99999 then zz (f,first++b++a) else zx
 |_,_=>zx
abbrev LI:=Dz×List Ad×Ak
def IT.step(j:FuncId->List Ad->IT)(d:IT->Ak->Option LI):IT->Ak->Option LI
 | .ret x A,h=>zz (x,A,h)
 | .fail,_=>zx
 | .op o i k,h=>match AB o i with
  |zz v=>IT.step j d (k v) h
  |zx=>zx
 | .cells n v k,h=>if zy v.cells=n then IT.step j d (k v.cells) h else zx
 | .Hs c t e,h=>match c with
  | .bool zp=>IT.step j d t h
  | .bool zr=>IT.step j d e h
  |_=>zx
 | .load n p k,h=>match A8 h n p with
  |zz v=>IT.step j d (k v) h
  |zx=>zx
 | .store n p v k,h=>match Cv h n p v with
  |zz q=>IT.step j d k q
  |zx=>zx
 | .alloc n v k,h=>match aT h n v with
  |zz (q,p)=>IT.step j d (k p) q
  |zx=>zx
 | .call f i k,h=>match d (j f i) h with
  |zz (.ret,[r],q)=>IT.step j d (k r) q
  |_=>zx
 | .Mp g i k,h=>match C6 g i with
  |zz (f,i)=>match d (j f i) h with
   |zz (.ret,[r],q)=>IT.step j d (k r) q
   |_=>zx
  |zx=>zx
 | .BG f i k,h=>if i.all Ad.OJ then match d (j f i) [] with
   |zz (.ret,[r],_)=>if r.OJ then IT.step j d (k r) h else zx
   |_=>zx
  else zx
 | .loop y B z k,h=>match IT.step j d (z B) h with
  |zz (.normal,A,q)=>d (.loop y A z k) q
  |zz (x,A,q)=>IT.step j d (k x A) q
  |zx=>zx
 | .Qp _ t k,h=>match IT.step j d t h with
  |zz (x,A,q)=>IT.step j d (k x A) q
  |zx=>zx
 | .same a b k,h=>if Ad.beq a b then IT.step j d k h else zx
 | .RQ k,h=>IT.step j d (k (.map (zz (zy h)))) (h++[.map []])
 | .Me m y v k,h=>match TU h m y v with
  |zz q=>IT.step j d k q
  |zx=>zx
 | .N7 zero ok m y k,h=>match Rc h zero ok m y with
  |zz v=>IT.step j d (k v) h
  |zx=>zx
 | .make w l zero len D k,h=>match Vk h w l zero len D with
  |zz (q,v)=>IT.step j d (k v) q
  |zx=>zx
 | .M3 w l s x k,h=>match KF h w l s x with
  |zz (q,v)=>IT.step j d (k v) q
  |zx=>zx
 | .FZ s k,h=>match Ki h s with
  |zz (q,v)=>IT.step j d (k v) q
  |zx=>zx
 | .RL v k,h=>match LH h v with
  |zz (q,E)=>IT.step j d (k E) q
  |zx=>zx
 | .RR C p k,h=>match Mz h C p with
  |zz q=>IT.step j d k q
  |zx=>zx
 | .Kh w l s x k,h=>match Gq h w l s x with
  |zz (q,v)=>IT.step j d (k v) q
  |zx=>zx
 | .HL w l s x k,h=>match TV h w l s x with
  |zz v=>IT.step j d (k v) h
  |zx=>zx
 | .mem o i k,h=>match EH o h i with
  |zz (q,v)=>IT.step j d (k v) q
  |zx=>zx
 | .uc f i k,h=>match d (j f i) [] with
  |zz (.ret,[r],_)=>if r.OJ then IT.step j d (k r) h else zx
  |_=>zx
def IT.run(a:FuncId->List Ad->IT):Nat->IT->Ak->Option LI
 |0=>λ_ _=>zx
 |n+1=>IT.step a (IT.run a n)
end Go.Am
end
section
namespace Go.Am
inductive Sh where
 |val
 |BD
 |box (n:Nat) (BD:List Nat)
 deriving Inhabited
inductive uf where
 |RS|heap
 deriving DecidableEq,Inhabited
structure Hw where
 P:Program
 aIh:FuncId->Nat->List (Nat×Sh)
 aGI:FuncId->Nat->Option (List (Nat×Sh))
 aGJ:FuncId->Nat->Option (List (Nat×Sh))
 kind:FuncId->Nat->uf
 KG:FuncId->Bool
 aGK:FuncId->Bool
 J_:FuncId->Nat->Bool
 aW:FuncId->Nat->Bool
 ĳ:FuncId->Bool
 Ĵ:FuncId->List (Nat×Nat)
 IF:Nat->Option (List Ad)
 aIi:FuncId->Option (List Ad->IT)
 alt:FuncId->FuncId->FuncId
 Mf:FuncId->Bool
inductive FA where
 |pure (ws:List (Nat×Fb))
 |op (p:Pw) (args:List Ad) (dst:Option Nat) (BD:Bool) (Ej:Option (Nat×Ad))
 |box (n:Nat) (v:Ad) (dst:Nat)
 |closure (fn:Fn) (first captured:List Ad) (froze:List (Nat×List Ad)) (dst:Nat)
 |Pe (s off n:Nat) (v:Ad) (BD:Bool) (Ej:Option (Nat×Ad)) (ver:Nat) (cells:List Ad) (owned:List Nat)
 |load (n:Option Nat) (p:Ad) (dst:Option Nat)
 |store (n:Nat) (p v:Ad)
 |alloc (n:Nat) (v:Ad) (dst:Option Nat)
 |call (f:FuncId) (args:List Ad) (dst:Option Nat)
 |Mp (g:Ad) (args:List Ad) (dst:Option Nat)
 |BG (f:FuncId) (args:List Ad) (dst:Option Nat)
 |RQ (dst:Option Nat)
 |Me (m k v:Ad)
 |N7 (zero:Ad) (ok:Bool) (m k:Ad) (dst:Option Nat)
 |make (size bytes:Nat) (zero:List Ad) (len cap:Ad) (dst:Option Nat)
 |M3 (size bytes:Nat) (s x:Ad) (dst:Option Nat) (Ej:Option (Nat×Ad))
 |Kh (size bytes:Nat) (s x:Ad) (dst:Option Nat)
 |HL (size bytes:Nat) (s x:Ad) (dst:Option Nat) (Ej:Option (Nat×Ad))
 |FZ (s:Ad) (dst:Option Nat)
 |aQ (v:Ad) (dst:Option Nat)
 |mem (o:YX) (args:List Ad) (dst:Option Nat)
section
variable(P:Program)(t:TypeId)
def Ce:Option Nat:=(P.info? t).map (·.size)
def LL:Option Nat:=(P.info? t).map (·.bytes)
def Gm:Option (Option Nat):=
 match P.underlying t with
 |zz (.struct _)|zz (.array _ _)=>(Ce P t).map zz
 |zz _=>zz zx
 |zx=>zx
def Ip:Option Ad:=((P.info? t).bind (·.zero)).bind NL
end
def aX(a:TypeId->Option (List FK)):List Field->Nat->Option (List FK)
 |[],_=>zz []
 |f::d,b=>if f.name≠ "_"/\f.offset=b then match a f.type with
   |zz c=>(aX a d (b+zy c)).map (c++·)
   |zx=>zx
  else zx
def RT(P:Program):Nat->TypeId->Option (List FK)
 |0,_=>zx
 |d+1,t=>
  let c (k:FK):Option (List FK):=if Ce P t=zz 1 then zz [k] else zx
  match P.underlying t with
  |zz .bool=>c .b
  |zz (.int _)=>c .i
  |zz .string=>c .s
  |zz (.struct f)=>match aX (RT P d) f.toList 0 with
   |zz e=>if Ce P t=zz (zy e)/\P.stoodInHeld t=zr then zz e else zx
   |zx=>zx
  |_=>zx
def JR(P:Program)(s:TypeId)(f:Nat):Option (Nat×Option Nat):=
 match P.underlying s with
 |zz (.struct d)=>match d[f]? with
  |zz c=>match Ce P c.type,Gm P c.type with
   |zz (_+1),zz a=>zz (c.offset,a)
   |_,_=>zx
  |zx=>zx
 |_=>zx
def EN(C:Hw)(U:B5):Operand->Option Fb
 | wv t=>zz (U.at t)
 | w4 (zd b)=>zz (.RO b)
 | w4 (zq zx 0 0)=>zz (.BD .slnil)
 | w4 v=>(NL v).map .val
 | .global g=>(C.IF g).map λc=> .val (.CO c)
 | .func f=>zz (.val (.func (z5 f) [] []))
def FV(C:Hw)(U:B5)(x:Operand):Option Ad:=(EN C U x).bind Fb.Jt
def BI(C:Hw)(U:B5):List Operand->Option (List Ad)
 |[]=>zz []
 |x::b=>match FV C U x,BI C U b with
  |zz v,zz c=>zz (v::c)
  |_,_=>zx
def ĵ(a:List Oper)(d:Nat):Bool:=
 a.any λo=>match o.op with
  | .call c=>(match c.callee with| .builtin .append=>zp|_=>zr)&&(match(c.args[0]?:Option Operand) with|zz (wv t)=>t==d|_=>zr)
  |_=>zr
def JS:Fb->Option Fb
 | .val v=>zz (.val v)
 | .RO b=>zz (.RO b)
 | .BD v=>zz (.val v)
 | .Ge s o=>zz (.Ge s o)
 |_=>zx
def Vm(x:Operand)(v:Ad):List (Nat×Fb):=
 match x with
 | wv s=>[(s,.val v)]
 |_=>[]
def MA(C:Hw)(U:B5)(x:Operand)(d:Nat)(b:Bool):Option FA:=
 match x,EN C U x with
 | wv s,zz (.box _ _ _)=>zz (.pure [(d,.Ge s 0)])
 | w4 _,zz c=>zz (.pure [(d,c)])
 |x,zz (.BD v)=>if b then zz (.pure (Vm x v++[(d,.BD v)])) else(JS (.BD v)).map λs=> .pure [(d,s)]
 |_,zz s=>(JS s).map λs=> .pure [(d,s)]
 |_,zx=>zx
def aY(a:List Ad):List Nat:=(xx (zy a)).filter λi=>match a.getD i .nilIface with| .slnil=>zp|_=>zr
def Pf(U:B5)(ds:List Nat):Bool:=U.all λs=>match s with| .Ge s _=> !ds.contains s|_=>zp
def B5.drop(U:B5)(a:List Nat):B5:=match a with|[]=>U|a=>U.map λs=>match s with| .Ge s o=>if a.contains s then .undef else .Ge s o|s=>s
def X8(C:Hw)(b:FuncId)(t:TypeId)(v:Ad)(d:Nat):Option FA:=
 match Ce C.P t with
 |zx=>zx
 |zz n=>if n=0 then zx else match C.kind b d with
  | .RS=>zz (.box n v d)
  | .heap=>zz (.alloc n v (zz d))
inductive aIj where
 |RS (s off ver:Nat) (cells:List Ad) (BD:List Nat)
 |ptr (p:Ad)
def Hz(C:Hw)(U:B5)(x:Operand):Option aIj:=
 match x,EN C U x with
 | wv s,zz (.box a d c)=>zz (.RS s 0 a d c)
 |_,zz (.Ge s o)=>match U.at s with
  | .box a d c=>zz (.RS s o a d c)
  |_=>zx
 |_,zz s=>s.Jt.map .ptr
 |_,zx=>zx
def DI(U:B5):Operand->Option (Nat×Ad)
 | wv s=>match U.at s with
  | .BD v=>zz (s,v)
  |_=>zx
 |_=>zx
def M4(C:Hw)(U:B5)(x:Operand):Bool:=match EN C U x with|zz (.BD _)=>zp|_=>zr
def Nt(C:Hw)(U:B5)(t:TypeId)(x:Operand)(d:Nat)(c:Bool):Option FA:=
 match Gm C.P t,Hz C U x with
 |zz n,zz (.ptr p)=>zz (.load n p (zz d))
 |zz zx,zz (.RS s o e b f)=>
  if o<zy b then
   let v:=b.getD o .nilIface
   if f.contains o&& !(f.erase o).contains o&&c then zz (.pure [(s,.box (e+1) b (f.erase o)),(d,.BD v)])
   else zz (.pure [(d,.val v)])
  else zx
 |zz (zz n),zz (.RS _ o _ b _)=>if o+n<=zy b then zz (.pure [(d,.val (.agg ((b.drop o).take n)))]) else zx
 |_,_=>zx
def K4(C:Hw)(U:B5)(t:TypeId)(x y:Operand):Option FA:=
 match Ce C.P t,Gm C.P t,Hz C U x,FV C U y with
 |zz (n+1),_,zz (.ptr p),zz v=>zz (.store (n+1) p v)
 |zz (n+1),zz a,zz (.RS s o c d e),zz v=>
  if o+(n+1)<=zy d then
   let BD:=a.isNone&&M4 C U y
   zz (.Pe s o (n+1) v BD (if BD then DI U y else zx) c d e)
  else zx
 |_,_,_,_=>zx
def Xf(P:Program)(t:TypeId)(a:Bool)(u:TypeDesc):Option Pw:=
 match u with
 | .bool=>zz (.beq a)
 | .struct _=>if P.eqGuardType P.depth t=zr then(RT P 20 t).map (.geq a) else zx
 | .pointer e=>if(Ce P e).getD 0=0 then zx else zz (.peq a)
 | .slice _=>zz (.GH a .sl)
 | .func _ _ _=>zz (.GH a .fn)
 | .map _ _=>zz (.GH a .mp)
 |_=>zx
def S9(P:Program)(a:BinOp)(t:TypeId):Option Pw:=
 match P.underlying t with
 |zz (.int _)=>zz (.int a)
 |zz .string=>zz (.str a)
 |zz u=>match a with
  | .eql=>Xf P t zr u
  | .neq=>Xf P t zp u
  |_=>zx
 |zx=>zx
def Xg(p:Pw)(b:Option Nat):Option (List Ad)->Option FA
 |zz a=>zz (.op p a b zr zx)
 |zx=>zx
def LM(P:Program)(t:TypeId):List (Nat×Operand)->Option (List (Nat×Nat))
 |[]=>zz []
 |(i,_)::b=>match P.underlying t with
  |zz (.struct c)=>match c[i]? with
   |zz f=>match Ce P f.type,LM P t b with
    |zz n,zz r=>zz ((f.offset,n)::r)
    |_,_=>zx
   |zx=>zx
  |zz (.array len e)=>if i<len then match Ce P e,LM P t b with
    |zz n,zz r=>zz ((i*n,n)::r)
    |_,_=>zx
   else zx
  |_=>zx
def N8(P:Program)(t:TypeId):Bool:=
 match P.info? t with
 |zz i=>match i.zero with
  |zz z=>z.cells.size==i.size
  |zx=>zr
 |zx=>zr
def Zs(P:Program)(t:TypeId):Bool:=
 match P.underlying t with
 |zz (.struct a)=>a.toList.all λf=>(Ce P f.type).isSome
 |zz (.array _ e)=>(Ce P e).isSome
 |_=>zr
def Xh(o:YX)(b:Option Nat):Option (List Ad)->Option FA
 |zz a=>zz (.mem o a b)
 |zx=>zx
def Un(C:Hw)(h:FuncId)(U:B5)(c:Call)(a:Option Nat):Option FA:=
 match c.callee with
 | .builtin .len=>match c.argTypes[0]? with
  |zz t=>match C.P.underlying t with
   |zz .string=>Xg (.len zp) a (BI C U c.args.toList)
   |zz (.slice _)=>Xg (.len zr) a (BI C U c.args.toList)
   |_=>zx
  |zx=>zx
 | .builtin .append=>match c.argTypes[0]?,c.argTypes[1]?,c.args.toList with
  |zz t,zz k,[s,x]=>match C.P.underlying t,C.P.underlying k with
   |zz (.slice e),zz (.slice _)|zz (.slice e),zz .string=>match Ce C.P e,LL C.P e with
    |zz (n+1),zz (b+1)=>if N8 C.P e then match BI C U [s,x] with
      |zz [v,u]=>if M4 C U s then
        (if(a.map (C.J_ h)).getD zr then zz (.M3 (n+1) (b+1) v u a (DI U s))
        else if(a.map (C.aW h)).getD zr then zz (.HL (n+1) (b+1) v u a (DI U s))
        else zz (.op (.append (n+1) (b+1)) [v,u] a zp (DI U s)))
       else if(a.map (C.J_ h)).getD zr then zz (.Kh (n+1) (b+1) v u a) else zx
      |_=>zx
     else zx
    |_,_=>zx
   |_,_=>zx
  |_,_,_=>zx
 | .builtin .copy=>match c.argTypes[0]?,c.argTypes[1]?,c.args.toList with
  |zz t,zz k,[s,x]=>match C.P.underlying t,C.P.underlying k with
   |zz (.slice e),zz (.slice _)|zz (.slice e),zz .string=>match Ce C.P e with
    |zz (n+1)=>Xh (.copy (n+1)) a (BI C U [s,x])
    |_=>zx
   |_,_=>zx
  |_,_,_=>zx
 | .builtin .clear=>match c.argTypes[0]?,c.args.toList with
  |zz t,[s]=>match C.P.underlying t with
   |zz (.slice e)=>match Ce C.P e,Ip C.P e with
    |zz (n+1),zz z=>Xh (.clear (n+1) z.cells) a (BI C U [s])
    |_,_=>zx
   |_=>zx
  |_,_=>zx
 | .builtin .max=>if c.args.size=2 then Xg (.Nr zp) a (BI C U c.args.toList) else zx
 | .builtin .min=>if c.args.size=2 then Xg (.Nr zr) a (BI C U c.args.toList) else zx
 | .value (.func f)=>if C.Mf f then(match c.args.toList with
  |[s,i,v]=>if M4 C U v then Xh .Ĳ a (BI C U [s,i,v]) else zx
  |_=>zx) else if Fq (C.alt h f)=f then(BI C U c.args.toList).map λj=>if C.aGK (C.alt h f) then .BG (C.alt h f) j a else .call (C.alt h f) j a else zx
 | .value g=>match FV C U g,BI C U c.args.toList with
  |zz g,zz j=>zz (.Mp g j a)
  |_,_=>zx
 |_=>zx
def aZ(C:Hw)(b c:TypeId):Option (Option Pw):=
 match C.P.underlying b,C.P.underlying c with
 |zz (.int _),zz (.int k)=>zz (zz (.conv k))
 |zz (.int _),zz .string=>zz (zz .i2s)
 |zz .string,zz .string=>zz zx
 |zz (.slice e),zz .string=>match C.P.underlying e with
  |zz (.int .u8)=>zz (zz .aQ)
  |_=>zx
 |zz .string,zz (.slice e)=>match C.P.underlying e,Ce C.P e,LL C.P e with
  |zz (.int .u8),zz 1,zz 1=>zz (zz .s2b)
  |_,_,_=>zx
 |_,_=>zx
def HA(C:Hw)(U:B5):List Operand->Option (List Ad×List (Nat×List Ad))
 |[]=>zz ([],[])
 |x::e=>match HA C U e with
  |zx=>zx
  |zz (c,a)=>match x,EN C U x with
   | wv s,zz (.box _ d _)=>if(a.map (·.1)).contains s then zx else zz (.CO d::c,(s,d)::a)
   |_,zz f=>match f.Jt with
    |zz v=>zz (v::c,a)
    |zx=>zx
   |_,zx=>zx
def HB(C:Hw)(r:FuncId)(E:List Oper)(U:B5)(o:Oper):Option FA:=
 match o.op with
 | .move x=>match o.dst with
  |zz d=>MA C U x d (ĵ E d)
  |zx=>zx
 | .assign x=>match o.dst with
  |zz d=>MA C U x d zp
  |zx=>zx
 | .pick c a b=>match EN C U c,o.dst with
  |zz (.RO zp),zz d=>MA C U a d zr
  |zz (.RO zr),zz d=>MA C U b d zr
  |_,A=>Xg .pick A (BI C U [c,a,b])
 | .alloc t=>match o.dst,Ip C.P t with
  |zz d,zz z=>match C.kind r d with
   | .RS=>if Ce C.P t=zz (zy z.cells)/\z.cells≠[] then zz (.pure [(d,.box 0 z.cells (aY z.cells))]) else zx
   |_=>X8 C r t z d
  |_,_=>zx
 | .box t x=>match o.dst,FV C U x with
  |zz d,zz v=>X8 C r t v d
  |_,_=>zx
 | .build t q=>match Ip C.P t,LM C.P t q.toList with
  |zz z,zz K=>if Zs C.P t then Xg (.Fc z.cells K) o.dst (BI C U (q.toList.map (·.2))) else zx
  |_,_=>zx
 | .buildSlice t len q=>match C.P.underlying t with
  |zz (.slice e)=>match Ce C.P e with
   |zz (n+1)=>if q.toList.map (·.1)=xx len/\N8 C.P e=zp then if len=0/\(o.dst.map (C.J_ r)).getD zr=zp then zz (.op (.FT (n+1)) [] o.dst zp zx) else(BI C U (q.toList.map (·.2))).map λG=> .op (.Df (n+1)) G o.dst zp zx else zx
   |_=>zx
  |_=>zx
 | .load t x=>match o.dst with
  |zz d=>Nt C U t x d (ĵ E d)
  |zx=>zx
 | .store t x y=>match o.dst with
  |zx=>K4 C U t x y
  |zz _=>zx
 | .nilCheck x=>match x,EN C U x,o.dst with
  | wv s,zz (.box _ _ _),zz d=>zz (.pure [(d,.Ge s 0)])
  |_,zz (.Ge s k),zz d=>zz (.pure [(d,.Ge s k)])
  |x,_,A=>Xg .K8 A (BI C U [x])
 | .binOp J t x y _=>match S9 C.P J t with
  |zz p=>Xg p o.dst (BI C U [x,y])
  |zx=>zx
 | .unOp J _ x=>Xg (.un J) o.dst (BI C U [x])
 | .convert H A x=>match aZ C H A with
  |zz (zz .aQ)=>(FV C U x).map λv=> .aQ v o.dst
  |zz (zz .s2b)=>if(o.dst.map (C.J_ r)).getD zr then(FV C U x).map λv=> .FZ v o.dst else Xg .s2b o.dst (BI C U [x])
  |zz (zz p)=>Xg p o.dst (BI C U [x])
  |_=>zx
 | .makeFunc M first u=>match o.dst,BI C U first.toList,HA C U u.toList with
  |zz d,zz a,zz (b,h)=>zz (.closure M a b h d)
  |_,_,_=>zx
 | .makeMap _ zx=>zz (.RQ o.dst)
 | .makeSlice t l c=>match C.P.underlying t with
  |zz (.slice e)=>match Ce C.P e,LL C.P e,Ip C.P e,FV C U l,FV C U c with
   |zz (n+1),zz (b+1),zz z,zz l,zz c=>zz (.make (n+1) (b+1) z.cells l c o.dst)
   |_,_,_,_,_=>zx
  |_=>zx
 | .insert t m k v| .mapUpdate t m k v=>match C.P.underlying t with
  |zz (.map F _)=>match o.dst,C.P.underlying F,BI C U [m,k,v] with
   |zx,zz .string,zz [m,k,v]=>zz (.Me m k v)
   |zx,zz (.int yb),zz [m,k,v]=>zz (.mem .ı [m,k,v] zx)
   |_,_,_=>zx
  |_=>zx
 | .lookup t m k ok=>match C.P.underlying t with
  |zz (.map F e)=>match C.P.underlying F,Ip C.P e,BI C U [m,k] with
   |zz .string,zz z,zz [m,k]=>zz (.N7 z ok m k o.dst)
   |zz (.int yb),zz z,zz [m,k]=>zz (.mem (.I_ z ok) [m,k] o.dst)
   |_,_,_=>zx
  |_=>zx
 | .slice t x (zz lo) (zz B) (zz L)=>match C.P.underlying t with
  |zz (.slice e)=>match Ce C.P e with
   |zz (n+1)=>Xh (.h_ (n+1)) o.dst (BI C U [x,lo,B,L])
   |_=>zx
  |_=>zx
 | .makeInterface t x=>match C.P.underlying t with
  |zz (.interface _)=>zx
  |zz _=>Xh (.aMj t) o.dst (BI C U [x])
  |zx=>zx
 | .mapEntry t m k=>match C.P.underlying t with
  |zz (.map F e)=>match C.P.underlying F,Ip C.P e with
   |zz (.int yb),zz z=>Xh (.Xc z) o.dst (BI C U [m,k])
   |zz .string,zz z=>Xh (.nD z) o.dst (BI C U [m,k])
   |_,_=>zx
  |_=>zx
 | .entryStore _ m s v=>match o.dst with
  |zx=>Xh .Qo zx (BI C U [m,s,v])
  |zz _=>zx
 | .slice t x lo B zx=>match C.P.underlying t with
  |zz .string=>Xg (.LK 0 zp lo.isSome B.isSome) o.dst (BI C U (x::(lo.toList++B.toList)))
  |zz (.slice e)=>match Ce C.P e with
   |zz (n+1)=>if(o.dst.map (C.J_ r)).getD zr then Xh (.H_ (n+1) lo.isSome B.isSome) o.dst (BI C U (x::(lo.toList++B.toList)))
    else Xg (.LK (n+1) zr lo.isSome B.isSome) o.dst (BI C U (x::(lo.toList++B.toList)))
   |_=>zx
  |_=>zx
 | .fieldAddr t x f=>match JR C.P t f,o.dst with
  |zz (w,_),zz d=>match x,EN C U x with
   | wv s,zz (.box _ _ _)=>zz (.pure [(d,.Ge s w)])
   |_,zz (.Ge s k)=>zz (.pure [(d,.Ge s (k+w))])
   |x,_=>Xg (.Mo w) (zz d) (BI C U [x])
  |_,_=>zx
 | .field t x f=>match JR C.P t f with
  |zz (w,g)=>Xg (.part w g) o.dst (BI C U [x])
  |zx=>zx
 | .indexAddr t x i=>match C.P.underlying t with
  |zz (.slice e)=>match Ce C.P e with
   |zz (n+1)=>Xg (.EM (n+1)) o.dst (BI C U [x,i])
   |_=>zx
  |zz (.array len e)=>match Ce C.P e with
   |zz (n+1)=>if len<=1 then zx else Xg (.X7 len (n+1)) o.dst (BI C U [x,i])
   |_=>zx
  |_=>zx
 | .index t x i=>match C.P.underlying t with
  |zz .string=>Xg .iU o.dst (BI C U [x,i])
  |zz (.array len e)=>match Ce C.P e,Gm C.P e with
   |zz (n+1),zz g=>Xg (.aIf len (n+1) g) o.dst (BI C U [x,i])
   |_,_=>zx
  |_=>zx
 | .extract x i=>Xg (.ext i) o.dst (BI C U [x])
 | .call c=>Un C r U c o.dst
 |_=>zx
def B5.E2(U:B5):List (Nat×Fb)->B5
 |[]=>U
 |(s,x)::ws=>B5.E2 (U.set s x) ws
def B5.put(U:B5)(a:Option Nat)(x:Fb):B5:=
 match a with
 |zz d=>U.set d x
 |zx=>U
def B5.Ej(U:B5):Option (Nat×Ad)->B5
 |zz (s,v)=>U.set s (.val v)
 |zx=>U
def bA(n:Nat)(a:List Ad):List Ad:=(xx n).map λi=>a.getD i .nilIface
def bB(b:List Ad)(a n:Nat)(c:List Ad):List Ad:=b.take a++c++b.drop (a+n)
def Vn(b:List Nat)(c n:Nat)(BD:Bool):List Nat:=
 let a:=b.filter λo=> !(c<=o&&o<c+n)
 if BD then c::a else a
def FA.N9(C:Hw)(U:B5)(K:B5->IT):FA->IT
 | .pure B=>K (U.E2 B)
 | .op p j i BD e=> .op p j λv=>K ((U.Ej e).put i (if BD then .BD v else .val v))
 | .box n v d=> .cells n v λA=>K (U.set d (.box 0 (bA n A) []))
 | .closure E a b h d=>K ((U.E2 (h.map λ(s,A)=>(s,.val (.CO A)))).set d (.val (.func E a b)))
 | .Pe s w n v BD e y t q=> .cells n v λD=>K ((U.Ej e).set s (.box (y+1) (bB t w n (bA n D)) (Vn q w n BD)))
 | .load n p i=> .load n p λv=>K (U.put i (.val v))
 | .store n p v=> .store n p v (K U)
 | .alloc n v i=> .alloc n v λp=>K (U.put i (.val p))
 | .call f j i=> .call f j λr=>K (U.put i (if C.KG f then .BD r else .val r))
 | .Mp g j i=> .Mp g j λr=>K (U.put i (.val r))
 | .BG f j i=> .BG f j λr=>K (U.put i (.val r))
 | .RQ i=> .RQ λm=>K (U.put i (.val m))
 | .Me m k v=> .Me m k v (K U)
 | .N7 z ok m k i=> .N7 z ok m k λv=>K (U.put i (.val v))
 | .make z b zero l c i=> .make z b zero l c λv=>K (U.put i (.val v))
 | .M3 z b s x i e=> .M3 z b s x λv=>K ((U.Ej e).put i (.val v))
 | .Kh z b s x i=> .Kh z b s x λv=>K (U.put i (.val v))
 | .HL z b s x i e=> .HL z b s x λv=>K ((U.Ej e).put i (.BD v))
 | .FZ s i=> .FZ s λv=>K (U.put i (.val v))
 | .aQ v i=> .RL v λv=> .op .aQ [v] λu=>K (U.put i (.val u))
 | .mem o j i=> .mem o j λv=>K (U.put i (if o.aMk then .undef else .val v))
def FA.news:FA->List Nat
 | .pure b=>b.filterMap λ(s,x)=>match x with| .box 0 _ _=>zz s|_=>zx
 | .box _ _ d=>[d]
 | .closure _ _ _ a _=>a.map (·.1)
 |_=>[]
inductive aMm where
 |Py (run:Bool)
 |ask (ic:Nat) (v:Ad) (want:Bool)
 |bad
def Kj(c:List Oper)(U:B5)(o:Oper):aMm:=
 match o.guard with
 |zx=> .Py zp
 |zz (j,a)=>match(c[j]?).bind (·.dst) with
  |zz s=>match U.at s with
   | .RO b=> .Py (b==a)
   | .val v=> .ask s v a
   | .skip=> .Py zr
   |_=> .bad
  |zx=> .bad
section
variable(C:Hw)(fid:FuncId)(ops:List Oper)(U:B5)(o:Oper)(K:B5->IT)
def Ķ:IT:=
 match HB C fid ops U o with
 |zz r=>r.N9 C (U.drop r.news) K
 |zx=> .fail
def Xi:IT:=
 match Kj ops U o with
 | .Py zp=>Ķ C fid ops U o K
 | .Py zr=>K (U.put o.dst .skip)
 | .ask s v a=>
  let t:=if a then Ķ C fid ops (U.set s (.RO zp)) o K else K (B5.put (U.set s (.RO zp)) o.dst .skip)
  let e:=if a then K (B5.put (U.set s (.RO zr)) o.dst .skip) else Ķ C fid ops (U.set s (.RO zr)) o K
  .Hs v t e
 | .bad=> .fail
end
def Xj:FuncId->Bool
 |_=>zr
def Xk(C:Hw)(U:B5)(o:Oper):List (Nat×List Ad):=
 match o.op with
 | .call c=>(match c.callee with
  | .value (.func f)=>if Xj f then(match HA C U c.args.toList with|zz (_,a)=>a|zx=>[]) else[]
  |_=>[])
 |_=>[]
def aIl(C:Hw)(U:B5)(o:Oper):B5:=(U.drop ((Xk C U o).map (·.1))).E2 ((Xk C U o).map λ(s,a)=>(s,.val (.CO a)))
def ug(C:Hw)(c:FuncId)(b:List Oper):List Oper->B5->(B5->IT)->IT
 |[],U,K=>K U
 |o::a,U,K=>Xi C c b (aIl C U o) o λU=>ug C c b a U K
end Go.Am
end
section
namespace Go.Am
def Oper.YY(o:Oper):List Nat:=o.after.toList.filterMap λe=>if Region.binds .any e then zz e.on else zx
def bit(i:Nat):Nat:=2^i
def M5(a:List Nat):List Oper->List Nat
 |[]=>a
 |o::rest=>M5 (a++[(Oper.YY o).foldl (λm e=>m|||bit e|||a.getD e 0) 0]) rest
def bC(a:List Oper):List Nat:=M5 [] a
def Fe(a:List Nat)(i j:Nat):Bool:=(a.getD j 0).testBit i
def aGL(o:Oper):Bool:=
 match o.op with
 | .call c=>(match c.callee with| .builtin .copy| .builtin .clear=>zp| .builtin _=>zr|_=>zp)
 | .store _ _ _| .insert _ _ _ _| .mapUpdate _ _ _ _| .makeMap _ _| .makeSlice _ _ _| .mapEntry _ _ _| .entryStore _ _ _ _=>zp
 |_=>zr
def bD(a:List Oper)(b:List Nat):List Oper->List Nat
 |[]=>b
 |o::rest=>bD a (b++[(Oper.YY o).foldl (λm e=>Nat.max m (b.getD e 0+(match a[e]? with|zz x=>if aGL x then 1 else 0|zx=>0))) 0]) rest
def aCW(a:List Oper):List Nat:=
 let st:=bD a [] a
 let b:=xx (zy a)
 let U9:=λi=>match a[i]? with|zz o=>aGL o|zx=>zr
 (xx (zy a+1)).flatMap λs=>(b.filter λi=>st.getD i 0==s&& !U9 i)++(b.filter λi=>st.getD i 0==s&&U9 i)
structure FP where
 rs:List Nat
 wf:List Nat
 hl:Bool
 U9:Bool
 news:List Nat
 lr:List Nat
 Xl:Bool
 deriving Inhabited
def LN(a:List Operand):List Nat:=a.filterMap λ| wv t=>zz t|_=>zx
def Qr(C:Hw)(U:B5)(x:Operand):Option Nat:=
 match Hz C U x with
 |zz (.RS s _ _ _ _)=>zz s
 |_=>zx
def Jn(C:Hw)(U:B5)(o:Oper):List Nat:=
 match o.op with
 | .load _ x=>(Qr C U x).toList
 | .store _ x _=>(Qr C U x).toList
 | .makeFunc _ _ a=>LN a.toList
 |_=>[]
def FA.wf:FA->List Nat
 | .pure e=>e.map (·.1)
 | .op _ _ c _ a=>c.toList++(a.map (·.1)).toList
 | .box _ _ d=>[d]
 | .closure _ _ _ b d=>d::b.map (·.1)
 | .Pe s _ _ _ _ a _ _ _=>s::(a.map (·.1)).toList
 | .load _ _ c| .alloc _ _ c| .call _ _ c| .Mp _ _ c| .BG _ _ c| .RQ c| .N7 _ _ _ _ c| .make _ _ _ _ _ c| .FZ _ c| .aQ _ c| .Kh _ _ _ _ c| .mem _ _ c=>c.toList
 | .M3 _ _ _ _ c a| .HL _ _ _ _ c a=>c.toList++(a.map (·.1)).toList
 | .store _ _ _| .Me _ _ _=>[]
def FA.hl:FA->Bool
 | .load _ _ _| .N7 _ _ _ _ _=>zp
 |_=>zr
def FA.U9:FA->Bool
 | .store _ _ _| .alloc _ _ _| .call _ _ _| .Mp _ _ _| .RQ _| .Me _ _ _| .make _ _ _ _ _ _| .M3 _ _ _ _ _ _| .FZ _ _| .aQ _ _| .Kh _ _ _ _ _| .HL _ _ _ _ _ _| .mem _ _ _=>zp
 |_=>zr
def GI(a:List Oper)(o:Oper):List Nat:=
 match o.guard with
 |zx=>[]
 |zz (j,_)=>((a[j]?).bind (·.dst)).toList
def Zt(a:List Fb):List Nat:=a.filterMap λ| .Ge t _=>zz t|_=>zx
def FA.uh:FA->List Nat
 | .pure a=>Zt (a.map (·.2))
 |_=>[]
def FA.Xl(U:B5)(r:FA):Bool:=
 Pf U r.news&&match r with
  | .load _ _ (zz d)=>decide (d<zy U)
  | .load _ _ zx| .N7 _ _ _ _ _| .closure _ _ _ (_::_) _=>zr
  |_=>zp
def YZ(C:Hw)(a:List Oper)(U:B5)(o:Oper)(r:Option FA):FP:=
 match r with
 |zx=>{rs:=GI a o,wf:=o.dst.toList,hl:=zr,U9:=zr,news:=[],lr:=Zt (o.dst.toList.map U.at),Xl:=zp}
 |zz r=>{rs:=GI a o++LN o.op.operands.toList++Jn C U o,wf:=r.wf++o.dst.toList,hl:=r.hl,U9:=r.U9,news:=r.news,lr:=Zt ((r.wf++o.dst.toList).map U.at)++r.uh,Xl:=r.Xl U}
def bE(a b:List Nat):Bool:=a.any λx=>b.contains x
def FP.apart(x y:FP):Bool:= !bE x.wf (y.rs++y.wf)&& !bE y.wf x.rs&& !bE x.lr y.news&& !bE y.lr x.news
def Uo(x y:FP):Bool:=x.Xl&&y.Xl&&x.apart y&& !(x.U9&&y.U9)&& !(x.U9&&y.hl)
def bF(n:Nat)(c:List Nat)(a:List (Nat×FP)):Bool:=
 go a&&(xx n).all (λi=>(a.map (·.1)).contains i)
where
 go:List (Nat×FP)->Bool
  |[]=>zp
  |(i,f)::rest=>rest.all (λ(j,g)=>i != j&& !Fe c j i&&(Fe c i j||Uo f g))&&go rest
structure Mq where
 idx:Nat
 n:Option Nat
 p:Ad
 v:Ad
def Vo(a:List Nat)(i:Nat):List Mq->IT->IT
 |[],t=>t
 |f::b,t=>if Fe a f.idx i then Vo a i b t else .load f.n f.p λv=> .same f.v v (Vo a i b t)
def OQ(i:Nat)(r:FA)(U:B5)(a:List Mq):List Mq:=
 match r with
 | .load n p (zz d)=>match U.at d with
  | .val v=>{idx:=i,n,p,v}::a
  |_=>a
 |_=>a
def Vp(a:List Oper)(i:Nat):Bool:=a.any λo=>match o.guard with|zz (j,_)=>j==i|zx=>zr
def ui(d:Option Nat)(U:B5)(K:B5->IT):IT:=
 match d with
 |zx=>K U
 |zz d=>match U.at d with
  | .val v=> .Hs v (K (U.set d (.RO zp))) (K (U.set d (.RO zr)))
  |_=>K U
def Uq(C:Hw)(f:FuncId)(d:List Oper)(h:List Nat):List Nat->List (Nat×FP)->List Mq->B5->(B5->IT)->IT
 |[],a,_,U,K=>if bF (zy d) h a.reverse then K U else .fail
 |i::e,a,j,U,K=>
  match d[i]? with
  |zx=> .fail
  |zz o=>match Kj d U o with
   | .Py zp=>match HB C f d U o with
    |zx=> .fail
    |zz r=>r.N9 C (U.drop r.news) λc=>
     let next:=ui (if Vp d i then o.dst else zx) c λb=>Uq C f d h e ((i,YZ C d U o (zz r))::a) (OQ i r c j) b K
     if r.U9 then Vo h i j next else next
   | .Py zr=>Uq C f d h e ((i,YZ C d U o zx)::a) j (U.put o.dst .skip) K
   |_=> .fail
def Ff(b:List Oper)(o:Oper):List Nat:=
 o.dst.toList++match o.op with
  | .move (wv s)=>(match o.dst with|zz d=>if ĵ b d then[s] else[]|zx=>[])
  | .assign (wv s)=>[s]
  | .store _ _ (wv s)=>[s]
  | .call c=>(match c.callee with| .builtin .append=>LN c.args.toList| .value (.func f)=>if Xj f then LN c.args.toList else[]|_=>[])
  | .makeFunc _ _ a=>LN a.toList
  |_=>[]
def Dq:Code->List Nat
 | .region _ c _=>c.toList.flatMap (Ff c.toList)
 | .seq a b=>Dq a++Dq b
 | .cond _ a b=>Dq a++Dq b
 | .block _ b=>Dq b
 | .loop b=>Dq b
 | .scope b=>Dq b
 |_=>[]
def Ct:Code->List Nat
 | .region _ c _=>c.toList.flatMap (GI c.toList)
 | .seq a b=>Ct a++Ct b
 | .cond (wv s) a b=>s::(Ct a++Ct b)
 | .cond _ a b=>Ct a++Ct b
 | .block _ b=>Ct b
 | .loop b=>Ct b
 | .scope b=>Ct b
 |_=>[]
def B5.clear(U:B5):List Nat->B5
 |[]=>U
 |s::ss=>B5.clear (U.set s .undef) ss
def H9:Code->Option Nat
 | .region c _ _=>zz c
 | .seq a b=>(H9 a).orElse λ_=>H9 b
 | .cond _ a b=>(H9 a).orElse λ_=>H9 b
 | .block _ b| .loop b| .scope b=>H9 b
 |_=>zx
def bG(U:B5):List (Nat×Sh)->Option (List Ad)
 |[]=>zz []
 |(s,a)::l=>
  let v:=match a,U.at s with
   | .val,x=>x.Jt
   | .BD,.BD v=>zz v
   | .box n e,.box _ c f=>if zy c=n/\e.all (f.contains ·) then zz (.agg c) else zx
   |_,_=>zx
  match v,bG U l with
  |zz v,zz d=>zz (v::d)
  |_,_=>zx
def j9:Fb->Nat
 | .box a _ _=>a
 |_=>0
def K9(a:List Ad):List (Nat×Sh)->Nat->B5->(B5->IT)->IT
 |[],_,U,K=>K U
 |(s,.val)::l,i,U,K=>K9 a l (i+1) (U.set s (.val (a.getD i .nilIface))) K
 |(s,.BD)::l,i,U,K=>K9 a l (i+1) (U.set s (.BD (a.getD i .nilIface))) K
 |(s,.box n b)::l,i,U,K=> .cells n (a.getD i .nilIface) λc=>K9 a l (i+1) (U.set s (.box (j9 (U.at s)+1) (bA n c) b)) K
def ķ(U:B5)(a:B5)(l:List (Nat×Sh)):Bool:=
 (xx (zy U)).all λs=>match U.at s with
  | .box b _ _=>(l.map (·.1)).contains s||(match a.at s with| .box c _ _=>c==b|_=>zr)
  | .Ge _ _=>(l.map (·.1)).contains s||(match a.at s with| .Ge _ _=>zp|_=>zr)
  |_=>zp
def EO(b:B5)(l:List (Nat×Sh))(x:Dz)(a:B5):IT:=
 if ķ b a l then match bG a l with
  |zz c=> .ret x c
  |zx=> .fail
 else .fail
def ĸ(l:List (Nat×Sh))(a:List Nat)(U:B5):Bool:=l.all λ(s,_)=>a.contains s||(match U.at s with| .box _ _ _=>zp|_=>zr)
def nE(a:List Oper):Bool:=a.zipIdx.all λ(o,i)=>(Oper.YY o).all λe=>decide (e<i)
def Vq(C:Hw)(b:FuncId)(a:List Oper)(c:Bool)(U:B5)(K:B5->IT):IT:=
 if c then(if nE a then Uq C b a (bC a) (aCW a) [] [] U K else .fail) else ug C b a a U K
def nF(c:Nat)(U:B5)(d:List Nat)(l:List (Nat×Sh))(t:(Dz->B5->IT)->IT)(K:Dz->B5->IT):IT:=
 let b:=U.clear d
 if ĸ l d U then .Qp c (t λx a=>EO b l x a) λx e=>K9 e l 0 b λa=>K x a else .fail
def aGM(K:Dz->B5->IT):Dz->B5->IT
 | .normal,_=> .fail
 | .exit i,U=>K (.exit i) U
 | .ret,U=>K .ret U
def HC(C:Hw)(h:FuncId):Code->B5->(Dz->B5->IT)->IT
 | .skip,U,K=>K .normal U
 | .region m j k,U,K=>match C.aGJ h m with
  |zx=>Vq C h j.toList k U (K .normal)
  |zz l=>nF (200000+m) U (j.toList.flatMap (Ff j.toList)++j.toList.flatMap (GI j.toList)) l (λK=>Vq C h j.toList k U (K .normal)) K
 | .seq a b,U,K=>HC C h a U λx d=>match x with
  | .normal=>HC C h b d K
  | .exit i=>K (.exit i) d
  | .ret=>K .ret d
 | .cond c a b,U,K=>match c,EN C U c with
  |_,zz (.RO zp)=>HC C h a U K
  |_,zz (.RO zr)=>HC C h b U K
  | wv s,zz (.val v)=>match C.aGI h s with
   |zx=> .Hs v (HC C h a (U.set s (.RO zp)) K) (HC C h b (U.set s (.RO zr)) K)
   |zz l=>nF (100000+s) U (s::(Dq a++Dq b++Ct a++Ct b)) l (λK=> .Hs v (HC C h a (U.set s (.RO zp)) K) (HC C h b (U.set s (.RO zr)) K)) K
  |_,_=> .fail
 | .block m b,U,K=>HC C h b U λx d=>match x with
  | .normal=>K .normal d
  | .exit i=>if i=m then K .normal d else K (.exit i) d
  | .ret=>K .ret d
 | .loop b,U,K=>
  let l:=C.aIh h ((H9 b).getD 0)
  let r:=Dq b++Ct b
  let f:=U.clear r
  if ĸ l r U then match bG U l with
   |zx=> .fail
   |zz o=> .loop ((H9 b).getD 0) o (λp=>K9 p l 0 f λe=>HC C h b e λx d=>EO f l x d) λx p=>K9 p l 0 f λd=>aGM K x d
  else .fail
 | .exit m,U,K=>K (.exit m) U
 | .ret,U,K=>K .ret U
 | .scope b,U,K=>HC C h b U K
 | .label _,U,K=>K .normal U
 |_,_,_=> .fail
def HZ(C:Hw)(U:B5):List ResultVar->List Ad->(List Ad->IT)->IT
 |[],c,K=>K c.reverse
 | .tmp t::d,c,K=>match(U.at t).Jt with
  |zz v=>HZ C U d (v::c) K
  |zx=> .fail
 | .cell a t::d,c,K=>match Gm C.P t,Hz C U (wv a) with
  |zz zx,zz (.RS _ o _ e _)=>if o<zy e then HZ C U d (e.getD o .nilIface::c) K else .fail
  |zz (zz n),zz (.RS _ o _ e _)=>if o+n<=zy e then HZ C U d (.agg ((e.drop o).take n)::c) K else .fail
  |zz n,zz (.ptr p)=> .load n p λv=>HZ C U d (v::c) K
  |_,_=> .fail
def Ta(U:B5):List ResultVar->Bool
 |[.tmp t]=>match U.at t with| .BD _=>zp|_=>zr
 |_=>zr
def uj(C:Hw)(U:B5):List (Nat×Nat)->IT->IT
 |[],t=>t
 |(s,a)::l,t=>match(U.at s).Jt with
  |zz p=> .RR a p (uj C U l t)
  |zx=> .fail
def RU:List Ad->List Ad->(List Ad->IT)->IT
 |[],a,K=>K a.reverse
 |v::b,a,K=> .RL v λv=>RU b (v::a) K
def X9:List Ad->IT
 |[v]=> .ret .ret [v]
 |vs=> .ret .ret [.tuple vs]
section
variable(C:Hw)(fid:FuncId)
def xD(c:Func)(U:B5):IT:=
 if C.KG fid&& !Ta U c.results.toList then .fail
 else uj C U (C.Ĵ fid) (HZ C U c.results.toList [] λb=>if C.ĳ fid then RU b [] X9 else X9 b)
def Ĺ(d:Func)(a:List Ad):IT:=
 match d.body with
 |zx=> .fail
 |zz c=>HC C fid c (a.map .val++y0 (d.ntmps-zy a) .undef) λx U=>match x with
  | .normal=>xD C fid d U
  | .exit _=> .fail
  | .ret=>xD C fid d U
def aMn(a:List Ad):IT:=
 match C.P.funcs[Fq fid]? with
 |zz c=>if c.name== "runtime.NumGoroutine" then .fail else Ĺ C fid c a
 |zx=> .fail
def Cf(a:List Ad):IT:=
 match C.aIi fid with
 |zz p=>p a
 |zx=>aMn C fid a
end
abbrev g(l:List Ad)(i:Nat):Ad:=l.getD i .nilIface
abbrev I(n:Int):Ad:= .int yb n
abbrev S(s:Aj):Ad:= .str s
abbrev tt:Ad:= .bool zp
abbrev ff:Ad:= .bool zr
abbrev Hw.run(C:Hw):Nat->IT->Ak->Option LI:=IT.run (Cf C)
end Go.Am
end
end
section
namespace Go.Am
section
variable{fn:FuncId->List Ad->IT}
def IT.Ls{D F:IT->Ak->Option LI}(E:∀t h r,D t h=zz r->F t h=zz r):
  ∀(t:IT) (h:Ak) (r:LI),IT.step fn D t h=zz r->IT.step fn F t h=zz r:=by
 intro t;induction t with
 |ret x K=>intro h r d;simpa[IT.step] using d
 |fail=>intro h r d;simp[IT.step] at d
 |op o w k u=>
  intro h r d;simp[IT.step] at d⊢;split at d;.exact u _ _ _ d
  .cases d
 |cells n v k u=>
  intro h r d;rw[IT.step] at d⊢;split at d;next J=>exact Ae J▸u _ _ _ d
  .cases d
 |Hs c t e i q=>
  intro h r d;simp[IT.step] at d⊢;split at d;.exact i _ _ d
  .exact q _ _ d
  .cases d
 |load n p k u=>
  intro h r d;simp[IT.step] at d⊢;split at d;.exact u _ _ _ d
  .cases d
 |store n p v k u=>
  intro h r d;simp[IT.step] at d⊢;split at d;.exact u _ _ d
  .cases d
 |alloc n v k u=>
  intro h r d;simp[IT.step] at d⊢;split at d;.exact u _ _ _ d
  .cases d
 |call f w k u=>
  intro h r d;simp[IT.step] at d⊢;split at d;next A=>exact E _ _ _ A▸u _ _ _ d
  .cases d
 |Mp g w k u=>
  intro h r d;simp[IT.step] at d⊢;split at d
  .rename_i f a ht;split at d;.rename_i A;rw[E _ _ _ A];exact u _ _ _ d
   .cases d
  .cases d
 |BG f w k u=>
  intro h r d;rw[IT.step] at d⊢;split at d
  .rename_i N;rw[Ae N];split at d
   .rename_i A;rw[E _ _ _ A];split at d;.rename_i G;simp[G,BV];exact u _ _ _ d
    .cases d
   .cases d
  .cases d
 |loop C init body k l j=>
  intro h r d;simp[IT.step] at d⊢;split at d;next A=>exact l _ _ _ A▸E _ _ _ d
  next x K A H L=>rw[l _ _ _ L];cases x<;>first|exact j _ _ _ _ d|cases H rfl
  .cases d
 |Qp C t k i j=>
  intro h r d;simp[IT.step] at d⊢;split at d;next A=>exact i _ _ A▸j _ _ _ _ d
  .cases d
 |same a b k u=>
  intro h r d;simp only[IT.step] at d⊢;split at d;next J=>exact Ae J▸u _ _ d
  .cases d
 |RQ k u=>intro h r d;simp[IT.step] at d⊢;exact u _ _ _ d
 |Me m C v k u=>
  intro h r d;simp[IT.step] at d⊢;split at d;.exact u _ _ d
  .cases d
 |N7 z ok m C k u=>
  intro h r d;simp[IT.step] at d⊢;split at d;.exact u _ _ _ d
  .cases d
 |make B y zero len cap k u=>
  intro h r d;simp[IT.step] at d⊢;split at d;.exact u _ _ _ d
  .cases d
 |M3 B y s x k u=>
  intro h r d;simp[IT.step] at d⊢;split at d;.exact u _ _ _ d
  .cases d
 |FZ s k u=>
  intro h r d;simp[IT.step] at d⊢;split at d;.exact u _ _ _ d
  .cases d
 |RL v k u=>
  intro h r d;simp[IT.step] at d⊢;split at d;.exact u _ _ _ d
  .cases d
 |RR off p k u=>
  intro h r d;simp[IT.step] at d⊢;split at d;.exact u _ _ d
  .cases d
 |Kh B y s x k u=>
  intro h r d;simp[IT.step] at d⊢;split at d;.exact u _ _ _ d
  .cases d
 |HL B y s x k u=>
  intro h r d;simp[IT.step] at d⊢;split at d;.exact u _ _ _ d
  .cases d
 |mem o w k u=>
  intro h r d;simp[IT.step] at d⊢;split at d;.exact u _ _ _ d
  .cases d
 |uc f w k u=>
  intro h r d;simp[IT.step] at d⊢;split at d
  .rename_i A;rw[E _ _ _ A];split at d;.rename_i G;simp[G,BV];exact u _ _ _ d
   .cases d
  .cases d
def IT.ĺ:∀(n:Nat) (t:IT) (h:Ak) (r:LI),IT.run fn n t h=zz r->IT.run fn (n+1) t h=zz r:=by
 intro n;induction n with
 |zero=>intro t h r a;simp[IT.run] at a
 |succ n b=>intro t h r a;exact IT.Ls (λt h r=>b t h r) t h r a
def IT.Ju{n m:Nat}(b:n<=m){t:IT}{h:Ak}{r:LI}(a:IT.run fn n t h=zz r):IT.run fn m t h=zz r:=by
 induction b with
 |refl=>exact a
 |step _ c=>exact IT.ĺ _ _ _ _ c
end
abbrev HN:=Dz->List Ad->Ak->Prop
def W(C:Hw)(t:IT)(Q:HN)(h:Ak):Prop:=∃n x a b,C.run n t h=zz (x,a,b)/\Q x a b
section
variable{C:Hw}{Q:HN}{h:Ak}
def W.mono{t:IT}{c:HN}(d:W C t Q h)(f:∀x a b,Q x a b->c x a b):W C t c h:=
 let⟨n,x,a,b,e,q⟩:=d;⟨n,x,a,b,e,f _ _ _ q⟩
def kC{x:Dz}{a:List Ad}(b:Q x a h):W C (.ret x a) Q h:=⟨1,x,a,h,rfl,b⟩
def Di{t:IT}(a:∃n x b c,IT.step (Cf C) (C.run n) t h=zz (x,b,c)/\Q x b c):W C t Q h:=
 let⟨n,x,b,c,d,q⟩:=a;⟨n+1,x,b,c,d,q⟩
def W.succ{t:IT}(a:W C t Q h):∃n x b c,IT.step (Cf C) (C.run n) t h=zz (x,b,c)/\Q x b c:=by
 let⟨n,x,b,c,d,q⟩:=a;cases n with
 |zero=>simp[Hw.run,IT.run] at d
 |succ n=>exact⟨n,x,b,c,d,q⟩
def aMp{o:Pw}{a:List Ad}{k:Ad->IT}{v:Ad}(d:AB o a=zz v)(c:W C (k v) Q h):W C (.op o a k) Q h:=let⟨n,x,b,e,hr,q⟩:=c.succ;Di ⟨n,x,b,e,by rwa[IT.step,d],q⟩
def uk{n:Nat}{v:Ad}{k:List Ad->IT}(c:zy v.cells=n)(b:W C (k v.cells) Q h):W C (.cells n v k) Q h:=let⟨m,x,a,e,d,q⟩:=b.succ;Di ⟨m,x,a,e,by simp[IT.step,c,BV];exact d,q⟩
def um{b:Bool}{t e:IT}(d:b=zp->W C t Q h)(i:b=zr->W C e Q h):W C (.Hs (.bool b) t e) Q h:=by
 cases b with
 |true=>let⟨m,x,a,c,f,q⟩:=(d rfl).succ;exact Di ⟨m,x,a,c,by rwa[IT.step],q⟩
 |false=>let⟨m,x,a,c,f,q⟩:=(i rfl).succ;exact Di ⟨m,x,a,c,by rwa[IT.step],q⟩
def Ļ{n:Option Nat}{p v:Ad}{k:Ad->IT}(c:A8 h n p=zz v)(b:W C (k v) Q h):W C (.load n p k) Q h:=let⟨m,x,a,d,hr,q⟩:=b.succ;Di ⟨m,x,a,d,by rwa[IT.step,c],q⟩
def uo{n:Nat}{p v:Ad}{k:IT}{a:Ak}(d:Cv h n p v=zz a)(c:W C k Q a):W C (.store n p v k) Q h:=let⟨m,x,b,e,hr,q⟩:=c.succ;Di ⟨m,x,b,e,by rwa[IT.step,d],q⟩
def uq{n:Nat}{v:Ad}{k:Ad->IT}(c:zy v.cells=n)(b:W C (k (.ptr (zz (zy h,0)))) Q (h++[.cells v.cells])):W C (.alloc n v k) Q h:=let⟨m,x,a,e,d,q⟩:=b.succ;Di ⟨m,x,a,e,by simp[IT.step,aT,c,BV];exact d,q⟩
def ļ{a b:Ad}{k:IT}(e:Ad.beq a b=zp)(d:W C k Q h):W C (.same a b k) Q h:=let⟨m,x,c,i,f,q⟩:=d.succ;Di ⟨m,x,c,i,by simp[IT.step,e,BV];exact f,q⟩
def Ľ{k:Ad->IT}(b:W C (k (.map (zz (zy h)))) Q (h++[.map []])):W C (.RQ k) Q h:=let⟨m,x,a,c,hr,q⟩:=b.succ;Di ⟨m,x,a,c,by rwa[IT.step],q⟩
def ľ{m a v:Ad}{k:IT}{b:Ak}(e:TU h m a v=zz b)(d:W C k Q b):W C (.Me m a v k) Q h:=let⟨n,x,c,f,hr,q⟩:=d.succ;Di ⟨n,x,c,f,by rwa[IT.step,e],q⟩
def Ŀ{z:Ad}{ok:Bool}{m a v:Ad}{k:Ad->IT}(d:Rc h z ok m a=zz v)(c:W C (k v) Q h):W C (.N7 z ok m a k) Q h:=let⟨n,x,b,e,hr,q⟩:=c.succ;Di ⟨n,x,b,e,by rwa[IT.step,d],q⟩
def ij{b a:Nat}{zero:List Ad}{len c v:Ad}{k:Ad->IT}{d:Ak}(i:Vk h b a zero len c=zz (d,v))(f:W C (k v) Q d):W C (.make b a zero len c k) Q h:=let⟨n,x,e,j,hr,q⟩:=f.succ;Di ⟨n,x,e,j,by rwa[IT.step,i],q⟩
def ur{b a:Nat}{s x v:Ad}{k:Ad->IT}{c:Ak}(f:KF h b a s x=zz (c,v))(e:W C (k v) Q c):W C (.M3 b a s x k) Q h:=let⟨n,x,d,i,hr,q⟩:=e.succ;Di ⟨n,x,d,i,by rwa[IT.step,f],q⟩
def bH{s v:Ad}{k:Ad->IT}{a:Ak}(d:Ki h s=zz (a,v))(c:W C (k v) Q a):W C (.FZ s k) Q h:=let⟨n,x,b,e,hr,q⟩:=c.succ;Di ⟨n,x,b,e,by rwa[IT.step,d],q⟩
def aGN{u v:Ad}{k:Ad->IT}{a:Ak}(d:LH h u=zz (a,v))(c:W C (k v) Q a):W C (.RL u k) Q h:=let⟨n,x,b,e,hr,q⟩:=c.succ;Di ⟨n,x,b,e,by rwa[IT.step,d],q⟩
def uv{a:Nat}{p:Ad}{k:IT}{b:Ak}(e:Mz h a p=zz b)(d:W C k Q b):W C (.RR a p k) Q h:=let⟨n,x,c,f,hr,q⟩:=d.succ;Di ⟨n,x,c,f,by rwa[IT.step,e],q⟩
section
variable{size bytes:Nat}{s x v:Ad}{k:Ad->IT}
def ŀ{c:Ak}(f:Gq h size bytes s x=zz (c,v))(e:W C (k v) Q c):W C (.Kh size bytes s x k) Q h:=let⟨n,x,d,i,hr,q⟩:=e.succ;Di ⟨n,x,d,i,by rwa[IT.step,f],q⟩
def kD(e:TV h size bytes s x=zz v)(d:W C (k v) Q h):W C (.HL size bytes s x k) Q h:=let⟨n,x,c,f,hr,q⟩:=d.succ;Di ⟨n,x,c,f,by rwa[IT.step,e],q⟩
end
def aGO{o:YX}{a:List Ad}{v:Ad}{k:Ad->IT}{b:Ak}(e:EH o h a=zz (b,v))(d:W C (k v) Q b):W C (.mem o a k) Q h:=let⟨n,x,c,f,hr,q⟩:=d.succ;Di ⟨n,x,c,f,by rwa[IT.step,e],q⟩
def Ev(C:Hw)(f:FuncId)(a:List Ad)(h:Ak)(R:Ad->Ak->Prop):Prop:=
 W C (Cf C f a) (λx b c=>x= .ret/\∃r,b=[r]/\R r c) h
section
variable{f:FuncId}{args:List Ad}
def Ev.mono{R c:Ad->Ak->Prop}(e:Ev C f args h R)(j:∀r b,R r b->c r b):Ev C f args h c:=
 W.mono e λ_ _ _ ⟨d,r,i,k⟩=>⟨d,r,i,j _ _ k⟩
def Ł{k:Ad->IT}(j:Ev C f args h λr b=>W C (k r) Q b):W C (.call f args k) Q h:=by let⟨n,x,vs,b,i,d,r,e,m,c,o,l,p,q⟩:=j;subst d;subst e;refine Di ⟨max n m,c,o,l,?_,q⟩;have h2:=IT.Ju (BC (IC n m) (Gd _)) p;rw[IT.step];rw[Hw.run] at*;rwa[IT.Ju (Jb n m) i]
def aCX{k:Ad->IT}(j:args.all Ad.OJ=zp)(i:Ev C f args [] λr _=>r.OJ=zp/\W C (k r) Q h):W C (.BG f args k) Q h:=by let⟨n,x,vs,h1,e,c,r,d,p,m,b,o,l,s,q⟩:=i;subst c;subst d;refine Di ⟨max n m,b,o,l,?_,q⟩;simp[IT.step,j,BV];rw[Hw.run] at*;simp[IT.Ju (Jb n m) e,p,BV];exact (IT.Ju (BC (IC n m) (Gd _)) s)
end
def ł{c:Nat}{t:IT}{k:Dz->List Ad->IT}(i:W C t (λx d e=>W C (k x d) Q e) h):W C (.Qp c t k) Q h:=by let⟨n,x,d,e,j,a⟩:=i.succ;let⟨m,f,o,l,p,q⟩:=a.succ;refine Di ⟨max n m,f,o,l,?_,q⟩;have b:=IT.Ls (λt h r=>IT.Ju (IC n m)) _ _ _ p;rw[IT.step];rw[Hw.run] at*;rwa[IT.Ls (λt h r=>IT.Ju (Jb n m)) _ _ _ j]
end
end Go.Am
end
open List renaming getD→yj
open Go.Am.IT renaming step→zu
open Go.Am.DH renaming cells→zo
open Go.Am.FA renaming N9→xh
open ByteArray renaming mk→x8
open Go.World renaming setRow→wz
open Go.Result renaming andThen_ok→zg,ok→y5
open Go.Am.Fb renaming val→z0,box→yi,undef→wy
section
namespace Go.Am
inductive Mr where
 |Oa (id:Nat)
 |loc (s:Nat)
 |tail (s:Nat) (c:Option Nat) (start:Nat)
def Mr.Ń:Mr->Bool
 | .Oa _=>zp
 |_=>zr
structure Gh where
 JJ:Nat->Nat->Option Value
 mu:Nat->Option Nat
 BD:Nat->Option Mr
 sz:Nat->Option Nat
mutual
def B3(γ:Gh):Ad->Value->Prop
 | .bool b,v=>v= zd b
 | .int k n,v=>v= zj k n
 | .str s,v=>v= zi ⟨⟨s⟩⟩
 | .ptr zx,v=>v= zc zx
 | .ptr (zz (id,o)),v=>∃b,γ.mu id=zz b/\v= zc (zz ⟨b,o,zx⟩)
 | .CO cs,v=>∃b o,v= zc (zz ⟨b,o,zx⟩)/\Dr γ cs b o
 | .sl z AH,v=>∃d cap,v= zq (zz d) (zy AH) cap/\zy AH<=cap/\(d.spot=zx\/cap=0)/\GJ γ AH z d.block d.off
 | .slnil,v=>v= zq zx 0 0
 | .FT _,v=>∃b,v= zq (zz ⟨b,0,zx⟩) 0 0
 | .CK id off len z,v=>∃b cap,γ.mu id=zz b/\v= zq (zz ⟨b,off,zx⟩) len cap/\len<=cap/\(0<z/\cap<=maxLen)/\γ.sz b=zz (off+cap*z)
 | .map zx,v=>v= .map zx
 | .map (zz id),v=>∃b,γ.mu id=zz b/\v= .map (zz b)
 | .func fn f c,v=>∃fs cs,v= .func fn fs cs/\Bt γ f fs.toList/\Bt γ c cs.toList
 | .nilFunc,v=>v= .nilFunc
 | .iface t a,v=>∃u,v= .iface t u/\B3 γ a u
 | .nilIface,v=>v= .nilIface
 | .agg cs,v=>∃us,v= .agg us/\Bt γ cs us.toList/\∀u∈us.toList,u.oneCell'=zp
 | .tuple vs,v=>∃us,v= .tuple us/\Bt γ vs us.toList
def Bt(γ:Gh):List Ad->List Value->Prop
 |[],us=>us=[]
 |a::l,us=>∃u Ei,us=u::Ei/\B3 γ a u/\Bt γ l Ei
def Dr(γ:Gh):List Ad->Nat->Nat->Prop
 |[],_,_=>True
 |a::l,b,o=>(∃u,γ.JJ b o=zz u/\B3 γ a u)/\Dr γ l b (o+1)
def GJ(γ:Gh):List (List Ad)->Nat->Nat->Nat->Prop
 |[],_,_,_=>True
 |r::rs,z,b,o=>zy r=z/\Dr γ r b o/\GJ γ rs z b (o+z)
end
structure Gh.le(γ γ':Gh):Prop where
 JJ:∀b o v,γ.JJ b o=zz v->γ'.JJ b o=zz v
 mu:∀id b,γ.mu id=zz b->γ'.mu id=zz b
 sz:∀b n,γ.sz b=zz n->γ'.sz b=zz n
def Gh.le.refl(γ:Gh):γ.le γ:=⟨λ_ _ _ h=>h,λ_ _ h=>h,λ_ _ h=>h⟩
def Gh.le.trans{a b c:Gh}(h:a.le b)(k:b.le c):a.le c:=⟨λ_ _ _ x=>k.JJ _ _ _ (h.JJ _ _ _ x),λ_ _ x=>k.mu _ _ (h.mu _ _ x),λ_ _ x=>k.sz _ _ (h.sz _ _ x)⟩
mutual
def B3.mono{γ γ':Gh}(E7:γ.le γ'):∀(a:Ad) (v:Value),B3 γ a v->B3 γ' a v
 | .bool b,v,h=>h
 | .int k n,v,h=>h
 | .str s,v,h=>h
 | .ptr zx,v,h=>h
 | .ptr (zz (id,o)),v,h=>by let⟨b,hb,hv⟩:=h;exact⟨b,E7.mu _ _ hb,hv⟩
 | .CO cs,v,h=>by let⟨b,o,hv,hm⟩:=h;exact⟨b,o,hv,Dr.mono E7 cs b o hm⟩
 | .sl z AH,v,h=>by let⟨d,cap,hv,hc,hs,hm⟩:=h;exact⟨d,cap,hv,hc,hs,GJ.mono E7 AH z _ _ hm⟩
 | .slnil,v,h=>h
 | .FT _,v,h=>h
 | .CK id off len z,v,h=>by let⟨b,cap,hb,hv,hc,hz,hs⟩:=h;exact⟨b,cap,E7.mu _ _ hb,hv,hc,hz,E7.sz _ _ hs⟩
 | .map zx,v,h=>h
 | .map (zz id),v,h=>by let⟨b,hb,hv⟩:=h;exact⟨b,E7.mu _ _ hb,hv⟩
 | .func fn f c,v,h=>by let⟨fs,cs,hv,h1,h2⟩:=h;exact⟨fs,cs,hv,Bt.mono E7 f _ h1,Bt.mono E7 c _ h2⟩
 | .nilFunc,v,h=>h
 | .iface t a,v,h=>by let⟨u,hv,h1⟩:=h;exact⟨u,hv,B3.mono E7 a u h1⟩
 | .nilIface,v,h=>h
 | .agg cs,v,h=>by let⟨us,hv,h1,h2⟩:=h;exact⟨us,hv,Bt.mono E7 cs _ h1,h2⟩
 | .tuple vs,v,h=>by let⟨us,hv,h1⟩:=h;exact⟨us,hv,Bt.mono E7 vs _ h1⟩
def Bt.mono{γ γ':Gh}(E7:γ.le γ'):∀(l:List Ad) (us:List Value),Bt γ l us->Bt γ' l us
 |[],us,h=>h
 |a::l,us,h=>by let⟨u,Ei,hu,h1,h2⟩:=h;exact⟨u,Ei,hu,B3.mono E7 a u h1,Bt.mono E7 l Ei h2⟩
def Dr.mono{γ γ':Gh}(E7:γ.le γ'):∀(l:List Ad) (b o:Nat),Dr γ l b o->Dr γ' l b o
 |[],_,_,_=>trivial
 |a::l,b,o,h=>by let⟨⟨u,hu,h1⟩,h2⟩:=h;exact⟨⟨u,E7.JJ _ _ _ hu,B3.mono E7 a u h1⟩,Dr.mono E7 l b (o+1) h2⟩
def GJ.mono{γ γ':Gh}(E7:γ.le γ'):∀(rs:List (List Ad)) (z b o:Nat),GJ γ rs z b o->GJ γ' rs z b o
 |[],_,_,_,_=>trivial
 |r::rs,z,b,o,h=>⟨h.1,Dr.mono E7 r b o h.2.1,GJ.mono E7 rs z b (o+z) h.2.2⟩
end
section
variable{γ:Gh}
def Bt.length:∀{l:List Ad} {us:List Value},Bt γ l us->zy us=zy l
 |[],us,h=>by rw[Bt] at h;subst h;rfl
 |a::l,us,h=>by obtain⟨u,Ei,rfl,_,b⟩:=h;simp[b.length]
def Bt.get:∀{l:List Ad} {us:List Value},Bt γ l us->∀{i:Nat} {a:Ad},l[i]?=zz a->∃u,us[i]?=zz u/\B3 γ a u
 |[],us,h,i,a,hi=>by simp at hi
 |x::l,us,h,i,a,hi=>by
  obtain⟨u,Ei,rfl,h1,d⟩:=h;cases i with
  |zero=>simp at hi;subst hi;exact⟨u,rfl,h1⟩
  |succ i=>simp at hi;let⟨v,b,c⟩:=d.get hi;exact⟨v,zv b,c⟩
def Bt.Ir:∀{l:List Ad} {us:List Value},zy us=zy l->(∀(i:Nat) (a:Ad) (u:Value),l[i]?=zz a->us[i]?=zz u->B3 γ a u)->Bt γ l us
 |[],us,b,_=>by rw[Bt];exact DR b
 |x::l,[],b,_=>by simp at b
 |x::l,u::us,b,h=>by exact⟨u,us,rfl,h 0 x u rfl rfl,Bt.Ir (zv b) λi a v hi c=>h (i+1) a v (zv hi) (zv c)⟩
def Bt.append:∀{l l':List Ad} {us b:List Value},Bt γ l us->Bt γ l' b->Bt γ (l++l') (us++b)
 |[],l',us,b,h,h'=>by rw[Bt] at h;subst h;exact zv h'
 |a::l,l',us,b,h,h'=>by obtain⟨u,r,rfl,h1,c⟩:=h;exact⟨u,r++b,rfl,h1,c.append h'⟩
def Bt.take{l:List Ad}{us:List Value}(h:Bt γ l us)(n:Nat):Bt γ (l.take n) (us.take n):=by
 refine Bt.Ir (by simp[h.length]) λi a u hi b=>?_;rw[Cw] at hi b;split at hi;next hlt=>let⟨v,hv,hr⟩:=h.get hi;grind
 .cases hi
def Bt.drop{l:List Ad}{us:List Value}(h:Bt γ l us)(n:Nat):Bt γ (l.drop n) (us.drop n):=by refine Bt.Ir (by simp[h.length]) λi a u hi b=>?_;rw[CF] at hi b;let⟨v,hv,hr⟩:=h.get hi;grind
def Dr.get:∀{l:List Ad} {b o:Nat},Dr γ l b o->∀{i:Nat} {a:Ad},l[i]?=zz a->∃u,γ.JJ b (o+i)=zz u/\B3 γ a u
 |[],b,o,h,i,a,hi=>by simp at hi
 |x::l,b,o,h,i,a,hi=>by
  let⟨⟨u,c,h1⟩,d⟩:=h;cases i with
  |zero=>simp at hi;subst hi;exact⟨u,c,h1⟩
  |succ i=>let⟨v,hv,hr⟩:=d.get hi;grind
def Dr.Ir:∀{l:List Ad} {b o:Nat},(∀(i:Nat) (a:Ad),l[i]?=zz a->∃u,γ.JJ b (o+i)=zz u/\B3 γ a u)->Dr γ l b o
 |[],b,o,h=>by rw[Dr];trivial
 |x::l,b,o,h=>by refine⟨h 0 x rfl,Dr.Ir λi a hi=>?_⟩;let⟨u,hu,hr⟩:=h (i+1) a (zv hi);grind
def Dr.drop{l:List Ad}{b o:Nat}(h:Dr γ l b o)(n:Nat):Dr γ (l.drop n) b (o+n):=by refine Dr.Ir λi a hi=>?_;rw[CF] at hi;let⟨u,hu,hr⟩:=h.get hi;grind
def Dr.values:∀{l:List Ad} {b o:Nat},Dr γ l b o->∃us:List Value,Bt γ l us/\∀(j:Nat) (u:Value),us[j]?=zz u->γ.JJ b (o+j)=zz u
 |[],b,o,h=>⟨[],by rw[Bt],AF⟩
 |x::l,b,o,h=>by
  let⟨⟨u,c,h1⟩,e⟩:=h;let⟨us,d,hi⟩:=e.values;refine⟨u::us,by rw[Bt];exact⟨u,us,rfl,h1,d⟩,λj v a=>?_⟩;cases j with
  |zero=>simp at a;subst a;exact c
  |succ j=>simp at a;rw[<-hi j v a];congr 1;omega
def GJ.get:∀{a:List (List Ad)} {z b o:Nat},GJ γ a z b o->∀{i:Nat} {r:List Ad},a[i]?=zz r->zy r=z/\Dr γ r b (o+i*z)
 |[],z,b,o,h,i,r,hi=>by simp at hi
 |x::a,z,b,o,h,i,r,hi=>by
  cases i with
  |zero=>simp at hi;subst hi;simpa using⟨h.1,h.2.1⟩
  |succ i=>let⟨h1,h2⟩:=h.2.2.get hi;grind
def GJ.Ir:∀{a:List (List Ad)} {z b o:Nat},(∀(i:Nat) (r:List Ad),a[i]?=zz r->zy r=z/\Dr γ r b (o+i*z))->GJ γ a z b o
 |[],z,b,o,h=>by rw[GJ];trivial
 |x::a,z,b,o,h=>by refine⟨(h 0 x rfl).1,zv (h 0 x rfl).2,GJ.Ir λi r hi=>?_⟩;let⟨h1,h2⟩:=h (i+1) r (zv hi);grind
def GJ.length:∀{a:List (List Ad)} {z b o:Nat},GJ γ a z b o->zy a.flatten=zy a*z
 |[],z,b,o,h=>AF
 |x::a,z,b,o,h=>by simp[h.1,h.2.2.length,Ch,RH]
end
def Qs{b:Addr}{n cap:Nat}(a:b.spot=zx\/cap=0)(hc:n<=cap)(hn:0<n):b=⟨b.block,b.off,zx⟩:=by
 obtain a|a:=a
 .cases b;simp_all
 .omega
def GJ.values{γ:Gh}:∀{a:List (List Ad)} {z b o:Nat},GJ γ a z b o->∃us:List Value,Bt γ a.flatten us/\zy us=zy a*z/\∀(j:Nat) (u:Value),us[j]?=zz u->γ.JJ b (o+j)=zz u
 |[],z,b,o,h=>⟨[],by simp[Bt],AF,AF⟩
 |x::a,z,b,o,h=>by
  let⟨us,h1,h2⟩:=h.2.1.values;let⟨f,d,c,e⟩:=h.2.2.values;have i:zy us=z:=by rw[h1.length,h.1]
  refine⟨us++f,zv (h1.append d),by simp[i,c,Ch,RH],λj u hj=>?_⟩;grind
def Kk(γ:Gh)(B:Nat)(w:World)(s:Nat)(c:Option Nat)(v:Value)(a:Ad):Prop:=
 (a= .slnil\/∃z,a= .FT z)\/∃g n cap us e z AH,a= .sl z AH/\v= zq (zz ⟨g,0,zx⟩) n cap/\γ.BD g=zz (.tail s c (n*z))/\B<=g/\
  w.heap[g]?=zz (.cells us e (0,0))/\us.size=cap*z/\n<=cap/\cap<=maxLen/\0<z
def Nu(γ:Gh)(β:Nat->Nat)(B:Nat)(w:World)(s:Nat):Fb->Value->Prop
 | wy,_=>True
 | .skip,v=>v=undef
 | z0 a,v=>B3 γ a v
 | .RO b,v=>v= zd b
 | .BD a,v=>B3 γ a v/\Kk γ B w s zx v a
 | yi _ cs d,v=>v= zc (zz ⟨β s,0,zx⟩)/\γ.BD (β s)=zz (.loc s)/\B<=β s/\
  ∃us e,w.heap[β s]?=zz (.cells us e (0,0))/\Bt γ cs us.toList/\(∀u∈us.toList,u.oneCell'=zp)/\
   ∀o∈d,∃u a,us[o]?=zz u/\cs[o]?=zz a/\Kk γ B w s (zz o) u a
 | .Ge s' o,v=>v= zc (zz ⟨β s',o,zx⟩)
structure FR(γ:Gh)(β:Nat->Nat)(B:Nat)(U:B5)(tmps:Array Value)(w:World):Prop where
 size:zy U=tmps.size
 JC:∀s,Nu γ β B w s (U.at s) (tmps.getD s undef)
def M6(γ:Gh):List (Ad×Ad)->List MapEntry->Prop
 |[],es=>es=[]
 |(k,v)::l,es=>∃e Y0,es=e::Y0/\B3 γ k e.key/\B3 γ v e.val/\M6 γ l Y0
def ń(γ:Gh)(l:List (Ad×Ad))(es:Array MapEntry)(b:Nat):Prop:=
 M6 γ l es.toList/\b=es.size/\∀(i:Nat) (e:MapEntry),es[i]?=zz e->e.born=i
def Xm(a:Nat×Nat)(n:Nat):Prop:=a=(0,0)\/n<=a.1
structure IA(γ:Gh)(h:Ak)(w:World):Prop where
 JJ:∀b o v,γ.JJ b o=zz v->w.cell? ⟨b,o,zx⟩=zz v/\v.oneCell'=zp/\(γ.BD b=zx\/∃s c st,γ.BD b=zz (.tail s c st)/\o<st)
 Oa:∀id x,h[id]?=zz x->x≠ .CV->∃b,γ.mu id=zz b/\γ.BD b=zz (.Oa id)
 cells:∀id cs,h[id]?=zz (zo cs)->∀b,γ.mu id=zz b->∃us e fr,w.heap[b]?=zz (.cells us e fr)/\Xm fr us.size/\Bt γ cs (us.toList.take (zy cs))/\∀u∈us.toList.take (zy cs),u.oneCell'=zp
 map:∀id es,h[id]?=zz (.map es)->∀b,γ.mu id=zz b->∃DU clock,w.heap[b]?=zz (.map DU clock)/\ń γ es DU clock
 mu:∀id b,γ.mu id=zz b->id<zy h
 BD:∀b x,γ.BD b=zz x->b<w.heap.size
 sz:∀b n,γ.sz b=zz n->(∃us e fr,w.heap[b]?=zz (.cells us e fr)/\us.size=n)/\(γ.BD b=zx\/∃id,γ.BD b=zz (.Oa id))
structure M7(γ0:Gh)(w0:World)(γ:Gh)(w:World):Prop where
 le:γ0.le γ
 size:w0.heap.size<=w.heap.size
 os:w.os=w0.os
 tape:w.tape=w0.tape
 output:w.output=w0.output
 Qt:∀b,b<w0.heap.size->(∀id,γ0.BD b≠zz (.Oa id))->w.heap[b]?=w0.heap[b]?/\γ.BD b=γ0.BD b
def M7.refl(γ:Gh)(w:World):M7 γ w γ w:=⟨.refl _,Af _,rfl,rfl,rfl,λ_ _ _=>⟨rfl,rfl⟩⟩
def M7.trans{γ0 d c:Gh}{w0 a e:World}(h:M7 γ0 w0 d a)(k:M7 d a c e):M7 γ0 w0 c e:=by refine⟨h.le.trans k.le,BC h.size k.size,k.os.trans h.os,k.tape.trans h.tape,k.output.trans h.output,λb j i=>?_⟩;.let⟨h1,l⟩:=h.Qt b j i;let⟨g,f⟩:=k.Qt b (KK j h.size) (λid=>by rw[l];exact i id);grind
structure K_(γ:Gh)(w:World)(γ':Gh)(w':World):Prop where
 le:γ.le γ'
 Qt:∀b x,γ.BD b=zz x->x.Ń=zr->γ'.BD b=zz x/\w'.heap[b]?=w.heap[b]?
section
variable{γ γ':Gh}
def K_.aIm{h:Ak}{w w':World}(hi:IA γ h w)(d:M7 γ w γ' w'):K_ γ w γ' w':=by refine⟨d.le,λb x c f=>?_⟩;let⟨h1,h2⟩:=d.Qt b (hi.BD b x c) (λid e=>by rw[c] at e;cases e;simp[Mr.Ń] at f);grind
def Kk.kept{B:Nat}{w w':World}{s:Nat}{c:Option Nat}{v:Value}{a:Ad}(h:Kk γ B w s c v a)(k:K_ γ w γ' w'):Kk γ' B w' s c v a:=by
 obtain h|⟨g,n,cap,us,e,z,AH,h1,o,l,j,i,f⟩:=h
 .exact .inl h
 .let⟨d,b⟩:=k.Qt g _ l rfl;exact .inr ⟨g,n,cap,us,e,z,AH,h1,o,d,j,by rwa[b],f⟩
def Nu.kept{β:Nat->Nat}{B:Nat}{w w':World}{s:Nat}{x:Fb}{v:Value}(h:Nu γ β B w s x v)(k:K_ γ w γ' w'):Nu γ' β B w' s x v:=by
 cases x with
 |undef=>trivial
 |skip=>exact h
 |val a=>exact B3.mono k.le a v h
 |RO b=>exact h
 |BD a=>exact⟨B3.mono k.le a v h.1,h.2.kept k⟩
 |box ver cs ow=>let⟨h1,t,l,us,e,j,i,g,f⟩:=h;let⟨d,c⟩:=k.Qt _ _ t rfl;exact⟨h1,d,l,us,e,by rwa[c],Bt.mono k.le cs _ i,g,λo n=>let⟨u,a,p,q,r⟩:=f o n;⟨u,a,p,q,r.kept k⟩⟩
 |Ge s' o=>exact h
def FR.kept{β:Nat->Nat}{B:Nat}{U:B5}{tmps:Array Value}{w w':World}(h:FR γ β B U tmps w)(k:K_ γ w γ' w'):FR γ' β B U tmps w':=
 ⟨h.size,λs=>(h.JC s).kept k⟩
end
end Go.Am
end
section
namespace Go.Am
def C9{w w':World}{b o:Nat}(h:w'.heap[b]?=w.heap[b]?):w'.cell? ⟨b,o,zx⟩=w.cell? ⟨b,o,zx⟩:=by simp[World.cell?,h]
def Ek{w:World}{b o:Nat}{v:Value}(h:w.cell? ⟨b,o,zx⟩=zz v):b<w.heap.size:=by
 obtain h'|h':=AQ b w.heap.size
 .exact h'
 .simp[World.cell?,Array.getElem?_eq_none h'] at h
def IA.aIn{γ:Gh}{h:Ak}{w:World}(hi:IA γ h w){b o:Nat}{v:Value}(a:γ.JJ b o=zz v):b<w.heap.size:=Ek (hi.JJ b o v a).1
def IA.same{γ:Gh}{h:Ak}{w w':World}(hi:IA γ h w)(c:w'.heap=w.heap):IA γ h w':=by
 refine⟨λb o v a=>?_,hi.Oa,λid cs f b a=>?_,λid es f b a=>?_,hi.mu,λb x i=>?_,λb n a=>by rw[c];exact hi.sz b n a⟩;.let⟨h1,h2,d⟩:=hi.JJ b o v a;have e:=C9 (w:=w) (b:=b) (o:=o) (by rw[c]);grind
 .rw[c];exact hi.cells id cs f b a
 .rw[c];exact hi.map id es f b a
 .rw[c];exact hi.BD b x i
def M7.same{γ:Gh}{w w':World}(b:w'.heap=w.heap)(h1:w'.os=w.os)(a:w'.tape=w.tape)(c:w'.output=w.output):M7 γ w γ w':=
 ⟨.refl _,by rw[b];exact Af _,h1,a,c,λ_ _ _=>⟨by rw[b],rfl⟩⟩
def M7.drew(γ:Gh)(w:World):M7 γ w γ w.drew:=M7.same rfl rfl rfl rfl
def Gh.DV(γ:Gh)(b:Nat)(us:Array Value)(k:Nat)(x:Option Mr):Gh:=
 {JJ:=λb' o=>if b'=b then(if o<k then us[o]? else zx) else γ.JJ b' o,mu:=γ.mu,BD:=λb'=>if b'=b then x else γ.BD b',sz:=γ.sz}
def Gh.B6(γ:Gh)(b id:Nat)(n:Option Nat):Gh:=
 {JJ:=γ.JJ,mu:=λi=>if i=id then zz b else γ.mu i,BD:=λb'=>if b'=b then zz (.Oa id) else γ.BD b',sz:=λb'=>if b'=b then n else γ.sz b'}
section
variable{γ:Gh}{h:Ak}{w:World}
def Fy(w:World)(o:Obj){b:Nat}(a:b<w.heap.size):(w.alloc o).heap[b]?=w.heap[b]?:=heap_alloc_old w o b a
def RV(hi:IA γ h w)(us:Array Value)(e:TypeId)(E:Nat×Nat)(k:Nat)(x:Option Mr)(h1:∀o u,o<k->us[o]?=zz u->u.oneCell'=zp)
  (m:x=zx\/(∃s c,x=zz (.tail s c k))\/(k=0/\∀id,x≠zz (.Oa id))):
  IA (γ.DV w.heap.size us k x) h (w.alloc (.cells us e E))/\M7 γ w (γ.DV w.heap.size us k x) (w.alloc (.cells us e E)):=by
 have T:γ.BD w.heap.size=zx:=by
  cases f:γ.BD w.heap.size with
  |none=>rfl
  |some y=>cases (DT _) (hi.BD _ y f)
 have K:∀o,γ.JJ w.heap.size o=zx:=λo=>by
  cases f:γ.JJ w.heap.size o with
  |none=>rfl
  |some y=>cases (DT _) (hi.aIn f)
 have A:γ.le (γ.DV w.heap.size us k x):=⟨λb' o' v' H=>by
  have:b'≠w.heap.size:=λD=>by rw[D,K] at H;cases H
  simp[Gh.DV,Aa this];exact H,λ_ _ C=>C,λ_ _ C=>C⟩
 constructor
 .refine⟨λb o v a=>?_,λid y R z=>?_,λid cs f b a=>?_,λid es f b a=>?_,hi.mu,λb y z=>?_,λb n a=>?_⟩;rotate_left 5;.let⟨⟨G,F,B,p,q⟩,r⟩:=hi.sz b n a;have j:=RI (by rw[Bf] at p;exact p.1);exact⟨⟨G,F,B,by rwa[Fy _ _ (by rw[Bf] at p;exact p.1)],q⟩,by simp[Gh.DV,Aa j];exact r⟩
  .by_cases j:b=w.heap.size
   .subst j;simp only[Gh.DV,BV] at a⊢;split at a
    .rename_i t;refine⟨by rwa[cell_of_row _ _ _ us e E (heap_alloc_new w _)],h1 o v t a,?_⟩;obtain m|⟨s,c,m⟩|⟨m,_⟩:=m
     .exact .inl m
     .exact .inr ⟨s,c,k,m,t⟩
     .omega
    .cases a
   .simp only[Gh.DV,Aa j] at a⊢;let⟨p,q,r⟩:=hi.JJ b o v a;exact⟨by rwa[C9 (Fy w _ (Ek p))],q,r⟩
  .let⟨b,p,q⟩:=hi.Oa id y R z;refine⟨b,p,?_⟩;have:b≠w.heap.size:=λD=>by rw[D,T] at q;cases q
   simp[Gh.DV,Aa this];exact q
  .let⟨G,F,B,p,L,q,r⟩:=hi.cells id cs f b a;exact⟨G,F,B,by rwa[Fy _ _ (by rw[Bf] at p;exact p.1)],L,Bt.mono A cs _ q,r⟩
  .let⟨J,i,p,q⟩:=hi.map id es f b a;refine⟨J,i,by rwa[Fy _ _ (by rw[Bf] at p;exact p.1)],?_,q.2⟩;replace q:=q.1;clear f p;revert q;generalize J.toList=l;intro q;induction es generalizing l with
   |nil=>exact q
   |cons M es N=>let⟨kk,d⟩:=M;let⟨en,Y0,O,Q,P,a3⟩:=q;exact⟨en,Y0,O,B3.mono A _ _ Q,B3.mono A _ _ P,N Y0 a3⟩
  .by_cases j:b=w.heap.size;.subst j;simp
   .simp only[Gh.DV,Aa j] at z;have:=hi.BD b y z;simp;omega
 .refine⟨A,AF,rfl,rfl,rfl,λb a _=>⟨Fy _ _ a,?_⟩⟩;simp[Gh.DV,Aa (RI a)]
def M6.mono{γ a:Gh}(c:γ.le a):∀{es:List (Ad×Ad)} {l:List MapEntry},M6 γ es l->M6 a es l
 |[],l,q=>q
 |(kk,b)::es,l,q=>by let⟨en,Y0,d,f,e,a3⟩:=q;exact⟨en,Y0,d,B3.mono c _ _ f,B3.mono c _ _ e,a3.mono c⟩
def ń.mono{γ a:Gh}(b:γ.le a){es:List (Ad×Ad)}{l:Array MapEntry}{c:Nat}(h:ń γ es l c):ń a es l c:=⟨h.1.mono b,h.2⟩
section
variable(hi:IA γ h w)
def Ia(o:Obj)(x:DH)(m:Option Nat)
  (D:(∃cs us e l,x= zo cs/\o= .cells us e l/\Xm l us.size/\Bt γ cs (us.toList.take (zy cs))/\(∀u∈us.toList.take (zy cs),u.oneCell'=zp)/\m=zz us.size)\/(x= .map []/\o= .map #[] 0/\m=zx)):
  IA (γ.B6 w.heap.size (zy h) m) (h++[x]) (w.alloc o)/\M7 γ w (γ.B6 w.heap.size (zy h) m) (w.alloc o):=by
 have M:γ.BD w.heap.size=zx:=by
  cases i:γ.BD w.heap.size with
  |none=>rfl
  |some y=>cases (DT _) (hi.BD _ y i)
 have c:γ.mu (zy h)=zx:=by
  cases i:γ.mu (zy h) with
  |none=>rfl
  |some y=>cases (DT _) (hi.mu _ y i)
 have L:γ.sz w.heap.size=zx:=by
  cases i:γ.sz w.heap.size with
  |none=>rfl
  |some y=>let⟨⟨_,_,_,p,_⟩,_⟩:=hi.sz _ y i;rw[Bf] at p;cases (DT _) p.1
 have B:γ.le (γ.B6 w.heap.size (zy h) m):=⟨λ_ _ _ H=>H,λid b k=>by
  have:id≠zy h:=λf=>by rw[f,c] at k;cases k
  simp[Gh.B6,Aa this];exact k,λb n k=>by
  have:b≠w.heap.size:=λf=>by rw[f,L] at k;cases k
  simp[Gh.B6,Aa this];exact k⟩
 constructor
 .refine⟨λb o' v d=>?_,λid y A z=>?_,λid cs i b d=>?_,λid es i b d=>?_,λid b d=>?_,λb y z=>?_,λb n d=>?_⟩;rotate_left 6
  .by_cases j:b=w.heap.size
   .subst j;simp[Gh.B6,BV] at d;rcases D with⟨G,us,e,l,rfl,rfl,t,p,q,rfl⟩|⟨rfl,rfl,rfl⟩
    .cases d;exact⟨⟨us,e,l,heap_alloc_new w _,rfl⟩,.inr ⟨zy h,by simp[Gh.B6]⟩⟩
    .cases d
   .simp only[Gh.B6,Aa j] at d⊢;let⟨⟨F,E,C,p,q⟩,r⟩:=hi.sz b n d;exact⟨⟨F,E,C,by rwa[Fy _ _ (by rw[Bf] at p;exact p.1)],q⟩,r⟩
  .let⟨p,q,r⟩:=hi.JJ b o' v d;have j:=RI (Ek p);exact⟨by rwa[World.cell?_alloc_old _ _ _ j],q,by simp[Gh.B6,Aa j];exact r⟩
  .by_cases f:id=zy h;.exact⟨w.heap.size,by simp[Gh.B6,f],by simp[Gh.B6,f]⟩
   .have K:id<zy h:=by rw[Aq] at A;let⟨J,_⟩:=A;simp at J;omega
    rw[An K] at A;let⟨b,p,q⟩:=hi.Oa id y A z;have j:b≠w.heap.size:=λf=>by rw[f,M] at q;cases q
    exact⟨b,by simp[Gh.B6,Aa f];exact p,by simp[Gh.B6,Aa j];exact q⟩
  .by_cases f:id=zy h
   .subst f;simp[Gh.B6] at d;subst d;simp at i;rcases D with⟨G,us,e,l,rfl,rfl,t,p,q,rfl⟩|⟨rfl,rfl,rfl⟩
    .cases i;exact⟨us,e,l,heap_alloc_new w _,t,Bt.mono B _ _ p,q⟩
    .cases i
   .simp only[Gh.B6,Aa f] at d;rw[An (hi.mu id b d)] at i;let⟨F,E,C,p,t,q,r⟩:=hi.cells id cs i b d;exact⟨F,E,C,by rwa[Fy _ _ (by rw[Bf] at p;exact p.1)],t,Bt.mono B _ _ q,r⟩
  .by_cases f:id=zy h
   .subst f;simp[Gh.B6] at d;subst d;simp at i;rcases D with⟨G,us,e,l,rfl,rfl,t,p,q,rfl⟩|⟨rfl,rfl,rfl⟩
    .cases i
    .cases i;exact⟨#[],0,heap_alloc_new w _,rfl,rfl,AF⟩
   .simp only[Gh.B6,Aa f] at d;rw[An (hi.mu id b d)] at i;let⟨N,s,p,q⟩:=hi.map id es i b d;exact⟨N,s,by rwa[Fy _ _ (by rw[Bf] at p;exact p.1)],q.mono B⟩
  .by_cases f:id=zy h;.simp[f]
   .simp only[Gh.B6,Aa f] at d;have:=hi.mu id b d;simp;omega
  .by_cases j:b=w.heap.size;.subst j;simp
   .simp only[Gh.B6,Aa j] at z;have:=hi.BD b y z;simp;omega
 .refine⟨B,AF,rfl,rfl,rfl,λb d _=>⟨Fy _ _ d,?_⟩⟩;simp[Gh.B6,Aa (RI d)]
def L_{g s:Nat}(j:γ.BD g=zz (.loc s))(us:Array Value):IA γ h (w.setRow g us):=by
 refine⟨λb o v c=>?_,hi.Oa,λid cs e b c=>?_,λid es e b c=>?_,hi.mu,λb x i=>?_,λb n c=>?_⟩;rotate_left 4
 .let⟨p,r⟩:=hi.sz b n c;have:b≠g:=λd=>by grind
  exact⟨by rwa[setRow_other w g b us this],r⟩
 .let⟨p,q,r⟩:=hi.JJ b o v c;have:b≠g:=λd=>by grind
  exact⟨by rwa[C9 (setRow_other w g b us this)],q,r⟩
 .have f:b≠g:=λd=>by subst d;let⟨b',p,q⟩:=hi.Oa id _ e AF;grind
  rw[setRow_other w g b us f];exact hi.cells id cs e b c
 .have f:b≠g:=λd=>by subst d;let⟨b',p,q⟩:=hi.Oa id _ e AF;rw[c] at p;cases p;rw[j] at q;cases q
  rw[setRow_other w g b us f];exact hi.map id es e b c
 .have:=hi.BD b x i;simpa[wz] using this
def Pz{g id:Nat}{cs:List Ad}(F:h[id]?=zz (zo cs))(B:γ.mu id=zz g){us:Array Value}{e:TypeId}{A:Nat×Nat}(E:w.heap[g]?=zz (.cells us e A))(l:Array Value)(D:List Ad)(L:l.size=us.size)(K:Xm A l.size)
  (O:Bt γ D (l.toList.take (zy D))) (h1:∀u∈l.toList.take (zy D),u.oneCell'=zp):
  IA γ (h.set id (zo D)) (w.setRow g l)/\M7 γ w γ (w.setRow g l):=by
 let⟨f,p,C⟩:=hi.Oa id _ F AF;rw[B] at p;cases p;have t:∀j x,h[j]?=zz x->x≠ .CV->γ.mu j=zz g->j=id:=λj x z c Q=>by let⟨b',p,q⟩:=hi.Oa j x z c;rw[Q] at p;cases p;rw[C] at q;cases q;rfl
 constructor
 .refine⟨λb o v m=>?_,λj y H N=>?_,λj cs s b m=>?_,λj es s b m=>?_,λj b m=>zv (hi.mu j b m),λb x z=>?_,λb n m=>?_⟩;rotate_left 5
  .let⟨⟨M,d,J,p,q⟩,r⟩:=hi.sz b n m;by_cases k:b=g;.subst k;rw[E] at p;cases p;exact⟨⟨l,e,A,setRow_heap w b us l e A E,by rwa[L]⟩,r⟩
   .exact⟨⟨M,d,J,by rwa[setRow_other w g b l k],q⟩,r⟩
  .let⟨p,q,r⟩:=hi.JJ b o v m;have:b≠g:=λk=>by subst k;rw[C] at r;obtain r|⟨_,_,_,r,_⟩:=r<;>cases r
   exact⟨by rwa[C9 (setRow_other w g b l this)],q,r⟩
  .by_cases k:j=id;.subst k;exact⟨g,B,C⟩
   .rw[Av (λx=>k x.symm)] at H;exact hi.Oa j y H N
  .by_cases k:j=id;.subst k;rw[B] at m;cases m;rw[AT (hi.mu _ _ B)] at s;cases s;exact⟨l,e,A,setRow_heap w g us l e A E,K,O,h1⟩
   .rw[Av (λx=>k x.symm)] at s;have G:b≠g:=λz=>by subst z;exact k (t j _ s AF m)
    rw[setRow_other w g b l G];exact hi.cells j cs s b m
  .by_cases k:j=id;.subst k;rw[AT (hi.mu _ _ B)] at s;cases s
   .rw[Av (λx=>k x.symm)] at s;have G:b≠g:=λz=>by subst z;exact k (t j _ s AF m)
    rw[setRow_other w g b l G];exact hi.map j es s b m
  .have:=hi.BD b x z;simpa[wz] using this
 .refine⟨.refl _,by simp[wz],rfl,rfl,rfl,λb m P=>⟨?_,rfl⟩⟩;exact setRow_other w g b l (λk=>by subst k;exact P id C)
def iu{g s st:Nat}{c:Option Nat}(B:γ.BD g=zz (.tail s c st)){us:Array Value}{e:TypeId}(N:w.heap[g]?=zz (.cells us e (0,0)))(t:Array Value)(k:Nat)(s':Nat)(c':Option Nat)
  (Q:∀o,o<st->t[o]?=us[o]?) (P:st<=k) (h1:∀o u,o<k->t[o]?=zz u->u.oneCell'=zp) (K:∀o v,γ.JJ g o=zz v->us[o]?=zz v):
  IA (γ.DV g t k (zz (.tail s' c' k))) h (w.setRow g t)/\γ.le (γ.DV g t k (zz (.tail s' c' k))):=by
 have F:∀o v,γ.JJ g o=zz v->o<st:=λo v O=>by
  let⟨_,_,r⟩:=hi.JJ g o v O;rw[B] at r;obtain r|⟨_,_,_,r,D⟩:=r
  .cases r
  .cases r;exact D
 have G:γ.le (γ.DV g t k (zz (.tail s' c' k))):=⟨λb o v l=>by
  by_cases m:b=g;.subst m;have:=F o v l;simp[Gh.DV,BV,Ae (KK this P)];rw[Q o this];exact K o v l
  .simp only[Gh.DV,Aa m];exact l,λ_ _ E=>E,λ_ _ E=>E⟩
 refine⟨⟨λb o v l=>?_,λid y R M=>?_,λid cs C b l=>?_,λid es C b l=>?_,hi.mu,λb x H=>?_,λb n l=>?_⟩,G⟩;rotate_left 5
 .let⟨p,r⟩:=hi.sz b n l;have:b≠g:=λm=>by subst m;rw[B] at r;obtain r|⟨_,r⟩:=r<;>cases r
  exact⟨by rwa[setRow_other w g b t this],by simp[Gh.DV,Aa this];exact r⟩
 .by_cases m:b=g
  .subst m;simp only[Gh.DV,BV] at l⊢;split at l
   next D=>exact⟨by rwa[cell_of_row _ _ _ t e (0,0) (setRow_heap w b us t e (0,0) N)],
     h1 o v D l,.inr ⟨s',c',k,rfl,D⟩⟩
   .cases l
  .simp only[Gh.DV,Aa m] at l⊢;let⟨p,q,r⟩:=hi.JJ b o v l;exact⟨by rwa[C9 (setRow_other w g b t m)],q,r⟩
 .let⟨b,p,q⟩:=hi.Oa id y R M;have:b≠g:=λm=>by subst m;rw[B] at q;cases q
  exact⟨b,p,by simp[Gh.DV,Aa this];exact q⟩
 .replace l:γ.mu id=zz b:=l;let⟨b',p,q⟩:=hi.Oa id _ C AF;rw[l] at p;cases p;have:b≠g:=λm=>by subst m;rw[B] at q;cases q
  rw[setRow_other w g b t this];let⟨L,j,J,i,f,d,r2⟩:=hi.cells id cs C b l;exact⟨L,j,J,i,f,Bt.mono G _ _ d,r2⟩
 .replace l:γ.mu id=zz b:=l;let⟨b',p,q⟩:=hi.Oa id _ C AF;rw[l] at p;cases p;have:b≠g:=λm=>by subst m;rw[B] at q;cases q
  rw[setRow_other w g b t this];let⟨T,A,i,d⟩:=hi.map id es C b l;exact⟨T,A,i,d.mono G⟩
 .by_cases m:b=g;.subst m;have:=hi.BD b _ B;simpa[wz] using this
  .simp only[Gh.DV,Aa m] at H;have:=hi.BD b x H;simpa[wz] using this
end
def M7.write{γ0 c:Gh}{w0:World}(e:M7 γ0 w0 γ w){a:World}{g:Nat}(hg:w0.heap.size<=g)(k:γ.le c)(f:a.heap.size=w.heap.size)(h1:a.os=w.os)(j:a.tape=w.tape)(d:a.output=w.output)
  (hk:∀b,b≠g->a.heap[b]?=w.heap[b]?/\c.BD b=γ.BD b):M7 γ0 w0 c a:=by
 refine⟨e.le.trans k,by rw[f];exact e.size,h1.trans e.os,j.trans e.tape,d.trans e.output,λb i h=>?_⟩;.let⟨p,q⟩:=e.Qt b i h;grind
def Ň(hi:IA γ h w){g id:Nat}{cs:List Ad}(D:h[id]?=zz (zo cs))(t:γ.mu id=zz g){us:Array Value}{e:TypeId}{H:Nat×Nat}(L:w.heap[g]?=zz (.cells us e H))(h1:∀u∈us.toList.take (zy cs),u.oneCell'=zp):
  IA (γ.DV g us (zy cs) zx) (h.set id .CV) w/\M7 γ w (γ.DV g us (zy cs) zx) w:=by
 let⟨d,p,z⟩:=hi.Oa id _ D AF;rw[t] at p;cases p;have l:∀i x,h[i]?=zz x->x≠ .CV->γ.mu i=zz g->i=id:=λi x k c m=>by let⟨b',p,q⟩:=hi.Oa i x k c;rw[m] at p;cases p;rw[z] at q;cases q;rfl
 have B:∀o v,γ.JJ g o=zz v->False:=λo v M=>by let⟨_,_,r⟩:=hi.JJ g o v M;rw[z] at r;obtain r|⟨_,_,_,r,_⟩:=r<;>cases r
 have G:γ.le (γ.DV g us (zy cs) zx):=⟨λb o v f=>by
  have:b≠g:=λa=>by subst a;exact B o v f
  simp[Gh.DV,Aa this];exact f,λ_ _ m=>m,λ_ _ m=>m⟩
 constructor
 .refine⟨λb o v f=>?_,λi y s A=>?_,λi O j b f=>?_,λi es j b f=>?_,λi b f=>zv (hi.mu i b f),λb x k=>?_,λb n f=>?_⟩;rotate_left 5
  .let⟨p,r⟩:=hi.sz b n f;by_cases a:b=g;.subst a;exact⟨p,.inl (by simp[Gh.DV])⟩
   .exact⟨p,by simp[Gh.DV,Aa a];exact r⟩
  .by_cases a:b=g
   .subst a;simp only[Gh.DV,BV] at f⊢;split at f;.rename_i C;exact⟨by rwa[cell_of_row _ _ _ us e H L],h1 v (C7 (by rw[D7 C];exact zv f)),.inl AF⟩
    .cases f
   .simp only[Gh.DV,Aa a] at f⊢;exact hi.JJ b o v f
  .by_cases a:i=id;.subst a;rw[AT (hi.mu _ _ t)] at s;cases s;cases A rfl
   .rw[Av (λx=>a x.symm)] at s;let⟨b,p,q⟩:=hi.Oa i y s A;have:b≠g:=λk=>by subst k;exact a (l i y s A p)
    exact⟨b,p,by simp[Gh.DV,Aa this];exact q⟩
  .by_cases a:i=id;.subst a;rw[AT (hi.mu _ _ t)] at j;cases j
   .rw[Av (λx=>a x.symm)] at j;let⟨F,E,J,p,K,q,r⟩:=hi.cells i O j b f;exact⟨F,E,J,p,K,Bt.mono G _ _ q,r⟩
  .by_cases a:i=id;.subst a;rw[AT (hi.mu _ _ t)] at j;cases j
   .rw[Av (λx=>a x.symm)] at j;let⟨F,E,p,q⟩:=hi.map i es j b f;exact⟨F,E,p,q.mono G⟩
  .by_cases a:b=g;.subst a;exact hi.BD b _ z
   .simp only[Gh.DV,Aa a] at k;exact hi.BD b x k
 .refine⟨G,Af _,rfl,rfl,rfl,λb f N=>⟨rfl,?_⟩⟩;have:b≠g:=λa=>by subst a;exact N id z
  simp[Gh.DV,Aa this]
end
end Go.Am
end
section
namespace Go.Am
def FA.PD(C:Hw)(A:IT->Ak->Option LI)(U:B5)(h:Ak)(e:B5)(h':Ak):FA->Prop
 | .pure ws=>e=U.E2 ws/\h'=h
 | .op p args q BD i=>∃v,AB p args=zz v/\e=(U.Ej i).put q (if BD then .BD v else z0 v)/\h'=h
 | .box n v d=>zy v.cells=n/\e=U.set d (yi 0 v.cells [])/\h'=h
 | .closure fn a b j d=>e=(U.E2 (j.map λ(s,cs)=>(s,z0 (.CO cs)))).set d (z0 (.func fn a b))/\h'=h
 | .Pe s off n v BD i E D B=>zy v.cells=n/\e=(U.Ej i).set s (yi (E+1) (bB D off n v.cells) (Vn B off n BD))/\h'=h
 | .load n p q=>∃v,A8 h n p=zz v/\e=U.put q (z0 v)/\h'=h
 | .store n p v=>Cv h n p v=zz h'/\e=U
 | .alloc n v q=>zy v.cells=n/\h'=h++[zo v.cells]/\e=U.put q (z0 (.ptr (zz (zy h,0))))
 | .call f args q=>∃r,A (Cf C f args) h=zz (.ret,[r],h')/\e=U.put q (if C.KG f then .BD r else z0 r)
 | .Mp g args q=>∃f y r,C6 g args=zz (f,y)/\A (Cf C f y) h=zz (.ret,[r],h')/\e=U.put q (z0 r)
 | .BG f args q=>args.all Ad.OJ=zp/\∃r h1,A (Cf C f args) []=zz (.ret,[r],h1)/\r.OJ=zp/\e=U.put q (z0 r)/\h'=h
 | .RQ q=>h'=h++[.map []]/\e=U.put q (z0 (.map (zz (zy h))))
 | .Me m k v=>TU h m k v=zz h'/\e=U
 | .make z b zero l c q=>∃v,Vk h z b zero l c=zz (h',v)/\e=U.put q (z0 v)
 | .M3 z b s x q i=>∃v,KF h z b s x=zz (h',v)/\e=(U.Ej i).put q (z0 v)
 | .Kh z b s x q=>∃v,Gq h z b s x=zz (h',v)/\e=U.put q (z0 v)
 | .HL z b s x q i=>∃v,TV h z b s x=zz v/\e=(U.Ej i).put q (.BD v)/\h'=h
 | .FZ s q=>∃v,Ki h s=zz (h',v)/\e=U.put q (z0 v)
 | .aQ s q=>∃v u,LH h s=zz (h',v)/\AB .aQ [v]=zz u/\e=U.put q (z0 u)
 | .mem o args q=>∃v,EH o h args=zz (h',v)/\e=U.put q (if o.aMk then wy else z0 v)
 | .N7 z ok m k q=>∃v,Rc h z ok m k=zz v/\e=U.put q (z0 v)/\h'=h
def Xn{n:Nat}{cs:List Ad}(h:zy cs=n):bA n cs=cs:=by apply Uj;intro i;simp[bA,Cp,yj];grind
def kF{C:Hw}{A:IT->Ak->Option LI}{U:B5}{K:B5->IT}{h:Ak}{R:LI}{r:FA}
  (q:zu (Cf C) A (r.N9 C U K) h=zz R):∃i h',r.PD C A U h i h'/\zu (Cf C) A (K i) h'=zz R:=by
 cases r with
 |pure ws=>exact⟨_,_,⟨rfl,rfl⟩,q⟩
 |op p args w BD e=>
  simp[xh,zu] at q;split at q;next v t=>exact⟨_,_,⟨v,t,rfl,rfl⟩,q⟩
  .cases q
 |box n v d=>
  simp only[xh,zu] at q;split at q;next y=>rw[Xn y] at q;exact⟨_,_,⟨y,rfl,rfl⟩,q⟩
  .cases q
 |closure fn a b j d=>exact⟨_,_,⟨rfl,rfl⟩,q⟩
 |Pe s off n v BD e ver cells owned=>
  simp only[xh,zu] at q;split at q;next y=>rw[Xn y] at q;exact⟨_,_,⟨y,rfl,rfl⟩,q⟩
  .cases q
 |load n p w=>
  simp[xh,zu] at q;split at q;next v t=>exact⟨_,_,⟨v,t,rfl,rfl⟩,q⟩
  .cases q
 |store n p v=>
  simp[xh,zu] at q;split at q;next h1 t=>exact⟨_,_,⟨t,rfl⟩,q⟩
  .cases q
 |alloc n v w=>
  simp[xh,zu,aT] at q;by_cases y:zy v.cells=n;.rw[Ae y] at q;exact⟨_,_,⟨y,rfl,rfl⟩,q⟩
  .rw[Aa y] at q;cases q
 |call f args w=>
  simp[xh,zu] at q;split at q;next r h1 t=>exact⟨_,_,⟨r,t,rfl⟩,q⟩
  .cases q
 |Mp g args w=>
  simp[xh,zu] at q;split at q
  .rename_i f F E;split at q;.rename_i r h1 t;exact⟨_,_,⟨f,F,r,E,t,rfl⟩,q⟩
   .cases q
  .cases q
 |BG f args w=>
  simp only[xh,zu] at q;split at q
  .rename_i G;split at q
   .rename_i r h1 t;split at q;.rename_i B;exact⟨_,_,⟨G,r,h1,t,B,rfl,rfl⟩,q⟩
    .cases q
   .cases q
  .cases q
 |RQ w=>exact⟨_,_,⟨rfl,rfl⟩,q⟩
 |Me m k v=>
  simp[xh,zu] at q;split at q;next h1 t=>exact⟨_,_,⟨t,rfl⟩,q⟩
  .cases q
 |N7 z ok m k w=>
  simp[xh,zu] at q;split at q;next v t=>exact⟨_,_,⟨v,t,rfl,rfl⟩,q⟩
  .cases q
 |make z b zero l c w=>
  simp[xh,zu] at q;split at q;next h1 v t=>exact⟨_,_,⟨v,t,rfl⟩,q⟩
  .cases q
 |M3 z b s x w e=>
  simp[xh,zu] at q;split at q;next h1 v t=>exact⟨_,_,⟨v,t,rfl⟩,q⟩
  .cases q
 |Kh z b s x w=>
  simp[xh,zu] at q;split at q;next h1 v t=>exact⟨_,_,⟨v,t,rfl⟩,q⟩
  .cases q
 |HL z b s x w e=>
  simp[xh,zu] at q;split at q;next v t=>exact⟨_,_,⟨v,t,rfl,rfl⟩,q⟩
  .cases q
 |FZ s w=>
  simp[xh,zu] at q;split at q;next h1 v t=>exact⟨_,_,⟨v,t,rfl⟩,q⟩
  .cases q
 |aQ s w=>
  simp[xh,zu] at q;split at q
  .rename_i h1 v t;split at q;.rename_i u D;exact⟨_,_,⟨v,u,t,D,rfl⟩,q⟩
   .cases q
  .cases q
 |mem o args w=>
  simp[xh,zu] at q;split at q;next h1 v t=>exact⟨_,_,⟨v,t,rfl⟩,q⟩
  .cases q
structure Dp(C:Hw)(γ0:Gh)(w0:World)(γ:Gh)(β:Nat->Nat)(U:B5)(h:Ak)(a:Act)(w:World):Prop where
 ED:IA γ h w
 fr:FR γ β w0.heap.size U a.tmps w
 Ex:M7 γ0 w0 γ w
 defers:a.defers=[]
 IF:∀g cs,C.IF g=zz cs->Dr γ cs g 0
def Vr{γ:Gh}{v:Value}{a:Ad}(h:RP v=zz a):B3 γ a v/\v.oneCell'=zp:=by
 unfold RP at h;split at h;case h_7=>
  split at h;next d=>cases h;have c:=Ka d.1;have b:=Ka d.2;subst c;subst b;exact⟨⟨#[],#[],rfl,rfl,rfl⟩,rfl⟩
  .cases h
 all_goals first
  |(cases h;exact⟨rfl,rfl⟩)
  |cases h
def Pg{γ:Gh}:∀{c:List Value} {d:List Ad},NX c=zz d->Bt γ d c/\∀v∈c,v.oneCell'=zp
 |[],d,h=>by cases h;exact⟨rfl,AF⟩
 |v::c,d,h=>by
  rw[NX] at h;split at h;next a b h1 k=>cases h;obtain⟨p,q⟩:=Vr h1;obtain⟨i,f⟩:=Pg k;exact⟨⟨v,c,rfl,p,i⟩,λx j=>(A0.1 j).elim (λe=>by rwa[e]) (f x)⟩
  .cases h
def Gr{γ:Gh}{v:Value}{a:Ad}(h:NL v=zz a):B3 γ a v:=by
 unfold NL at h;split at h
 .rename_i cs;cases b:NX cs.toList with
  |none=>rw[b] at h;cases h
  |some bp=>rw[b] at h;cases h;obtain⟨p,q⟩:=Pg b;exact⟨cs,rfl,p,q⟩
 .exact(Vr h).1
section
variable{C:Hw}{γ0 γ:Gh}{w0 w:World}{β:Nat->Nat}{U:B5}{h:Ak}{a:Act}
section
variable(hr:Dp C γ0 w0 γ β U h a w)
def Ur{x:Operand}{d:Fb}(b:EN C U x=zz d)(hn:∀s,x≠ .tmp s):∃s,Nu γ β w0.heap.size w s d (a.eval x):=by
 unfold EN at b;split at b;.grind
 .cases b;exact⟨0,rfl⟩
 .cases b;exact⟨0,rfl,.inl (.inl rfl)⟩
 .rename_i v _ _;cases c:NL v with
  |none=>rw[c] at b;cases b
  |some u=>rw[c] at b;cases b;exact⟨0,Gr c⟩
 .rename_i g;cases c:C.IF g with
  |none=>rw[c] at b;cases b
  |some cs=>rw[c] at b;cases b;exact⟨0,g,0,rfl,hr.IF g cs c⟩
 .cases b;exact⟨0,#[],#[],rfl,rfl,rfl⟩
def Vs(s:Nat):Nu γ β w0.heap.size w s (U.at s) (a.eval (.tmp s)):=hr.fr.JC s
def HD{x:Operand}{d:Fb}(b:EN C U x=zz d):∃s,Nu γ β w0.heap.size w s d (a.eval x)/\∀t,x= .tmp t->s=t:=by
 cases x with
 |tmp t=>cases b;exact⟨t,Vs hr t,λ_ h=>by cases h;rfl⟩
 |const v=>let⟨s,h1⟩:=Ur hr b (by intro s h;cases h);exact⟨s,h1,λ_ h=>by cases h⟩
 |global g=>let⟨s,h1⟩:=Ur hr b (by intro s h;cases h);exact⟨s,h1,λ_ h=>by cases h⟩
 |func f=>let⟨s,h1⟩:=Ur hr b (by intro s h;cases h);exact⟨s,h1,λ_ h=>by cases h⟩
end
def PE{B s:Nat}{b:Fb}{v:Value}{u:Ad}(c:Nu γ β B w s b v)(a:b.Jt=zz u):B3 γ u v:=by
 cases b<;>simp[Fb.Jt] at a;.subst a;exact c
 .subst a;exact c
 .subst a;exact c.1
section
variable(hr:Dp C γ0 w0 γ β U h a w)
def H5{x:Operand}{u:Ad}(b:FV C U x=zz u):B3 γ u (a.eval x):=by
 rw[FV] at b;cases c:EN C U x with
 |none=>rw[c] at b;cases b
 |some sl=>rw[c] at b;let⟨s,h1,_⟩:=HD hr c;exact PE h1 b
end
def Ez(d:Dp C γ0 w0 γ β U h a w):∀{c:List Operand} {us:List Ad},BI C U c=zz us->Bt γ us (c.map a.eval)
 |[],us,b=>by cases b;rfl
 |x::c,us,b=>by
  rw[BI] at b;split at b;next u Ei h1 e=>cases b;exact⟨_,_,rfl,H5 d h1,Ez d e⟩
  .cases b
section
variable{B:Nat}{tmps:Array Value}(hf:FR γ β B U tmps w){d:Nat}{x:Fb}
def FR.put{v:Value}(h:Nu γ β B w d x v):FR γ β B (U.set d x) (tmps.setIfInBounds d v) w:=by
 refine⟨by simp[hf.size],λs=>?_⟩;have i:=hf.JC s;by_cases c:s=d
 .subst c;by_cases f:s<zy U
  .have b:s<tmps.size:=by rwa[<-hf.size]
   simpa[B5.at,yj,f,b,Array.getD] using h
  .have b:¬s<tmps.size:=by rwa[<-hf.size]
   simpa[B5.at,yj,f,b,Array.getD] using i
 .have h1:B5.at (U.set d x) s=U.at s:=by simp[B5.at,yj,Av (λe=>c e.symm)]
  have h2:(tmps.setIfInBounds d v).getD s undef=tmps.getD s undef:=by simp[LF,gy (λe=>c e.symm)]
  grind
def FR.xE(c:Nu γ β B w d x (tmps.getD d undef)):FR γ β B (U.set d x) tmps w:=by
 refine⟨by simp[hf.size],λs=>?_⟩;have f:=hf.JC s;by_cases b:s=d
 .subst b;by_cases a:s<zy U;.simpa[B5.at,yj,a] using c
  .simpa[B5.at,yj,a] using f
 .have h1:B5.at (U.set d x) s=U.at s:=by simp[B5.at,yj,Av (λe=>b e.symm)]
  grind
end
section
variable(hr:Dp C γ0 w0 γ β U h a w)
def Dp.put{d:Option Nat}{x:Fb}{v:Value}(b:∀s,d=zz s->Nu γ β w0.heap.size w s x v):Dp C γ0 w0 γ β (U.put d x) h (a.put d v) w:=by
 cases d with
 |none=>exact hr
 |some d=>exact⟨hr.ED,hr.fr.put (b d rfl),hr.Ex,hr.defers,hr.IF⟩
def Dp.xE{d:Nat}{x:Fb}(b:Nu γ β w0.heap.size w d x (a.tmps.getD d undef)):Dp C γ0 w0 γ β (U.set d x) h a w:=
 ⟨hr.ED,hr.fr.xE b,hr.Ex,hr.defers,hr.IF⟩
def Dp.drop(ds:List Nat):Dp C γ0 w0 γ β (U.drop ds) h a w:=by
 cases ds with
 |nil=>exact hr
 |cons d ds=>
  refine⟨hr.ED,⟨by simp[B5.drop,hr.fr.size],λs=>?_⟩,hr.Ex,hr.defers,hr.IF⟩;have b:=hr.fr.JC s;have e:(B5.drop U (d::ds)).at s=match U.at s with| .Ge t o=>if(d::ds).contains t then wy else .Ge t o|x=>x:=by
   simp[B5.drop,B5.at,yj,Cp];cases hg:U[s]? with
   |none=>rfl
   |some x=>cases x<;>rfl
  rw[e];cases c:U.at s with
  |Ge t o=>
   rw[c] at b;simp only
   split;.trivial
   .exact b
  |_=>rwa[c] at b
def Dp.Kz{b:Gh}{h':Ak}{w':World}(hi:IA b h' w')(c:M7 γ w b w'):Dp C γ0 w0 b β U h' a w':=
 ⟨hi,hr.fr.kept (K_.aIm hr.ED c),hr.Ex.trans c,hr.defers,λg cs d=>Dr.mono c.le _ _ _ (hr.IF g cs d)⟩
end
def KQ{P:Program}{o:Oper}{v:Value}{w':World}{next:Act->World->Prop}{Q:Exit->Act->World->Prop}(b:(execOp a.eval o).run P w= y5 (.value v) w')(hn:next (a.put o.dst v) w'):o.wp P a w next Q:=by rw[Oper.wp];rwa[b]
def iv{P:Program}{o:Oper}{w':World}{next:Act->World->Prop}{Q:Exit->Act->World->Prop}(b:(execOp a.eval o).run P w= y5 .skip w')(hn:next (a.put o.dst undef) w'):o.wp P a w next Q:=by rw[Oper.wp];rwa[b]
end
end Go.Am
end
section
namespace Go.Am
def Gh.GW(γ:Gh)(g:Nat)(x:Mr):Gh:={γ with BD:=λb=>if b=g then zz x else γ.BD b}
section
variable{C:Hw}{γ0 γ:Gh}{w0 w:World}{β:Nat->Nat}{U:B5}{h:Ak}{a:Act}
def IG(γ:Gh)(g:Nat)(x:Mr):γ.le (γ.GW g x):=⟨λ_ _ _ h=>h,λ_ _ h=>h,λ_ _ h=>h⟩
def IA.GW(hi:IA γ h w){g s s' st:Nat}{c c':Option Nat}(f:γ.BD g=zz (.tail s c st)):IA (γ.GW g (.tail s' c' st)) h w:=by
 refine⟨λb o v d=>?_,λid y u l=>?_,λid cs i b d=>?_,λid es i b d=>?_,hi.mu,λb x j=>?_,λb n d=>?_⟩;rotate_left 5
 .let⟨p,r⟩:=hi.sz b n d;have:b≠g:=λa=>by grind
  exact⟨p,by simp[Gh.GW,Aa this];exact r⟩
 .let⟨p,q,r⟩:=hi.JJ b o v d;refine⟨p,q,?_⟩;by_cases a:b=g
  .subst a;rw[f] at r;obtain r|⟨_,_,_,r,m⟩:=r
   .cases r
   .cases r;exact .inr ⟨s',c',st,by simp[Gh.GW],m⟩
  .simpa only[Gh.GW,Aa a] using r
 .let⟨b,p,q⟩:=hi.Oa id y u l;have:b≠g:=λa=>by subst a;rw[f] at q;cases q
  exact⟨b,p,by simp[Gh.GW,Aa this];exact q⟩
 .let⟨us,e,t,p,k,q,r⟩:=hi.cells id cs i b d;exact⟨us,e,t,p,k,Bt.mono (IG γ g _) _ _ q,r⟩
 .let⟨us,e,p,q⟩:=hi.map id es i b d;exact⟨us,e,p,q.mono (IG γ g _)⟩
 .by_cases a:b=g;.subst a;exact hi.BD b _ f
  .simp only[Gh.GW,Aa a] at j;exact hi.BD b x j
def Kk.GW{B:Nat}{s b st:Nat}{c d:Option Nat}{v:Value}{u:Ad}{x:Mr}{g:Nat}(hg:γ.BD g=zz (.tail s c st))(a:Kk γ B w b d v u)(hne:b≠s\/d≠c):Kk (γ.GW g x) B w b d v u:=by
 obtain a|⟨h,n,cap,us,e,z,AH,h1,j,i,f⟩:=a
 .exact .inl a
 .have:h≠g:=λhe=>by grind
  exact .inr ⟨h,n,cap,us,e,z,AH,h1,j,by simp[Gh.GW,Aa this];exact i,f⟩
def FR.GW{B:Nat}{tmps:Array Value}(A:FR γ β B U tmps w){g s st:Nat}{c:Option Nat}{x:Mr}(z:γ.BD g=zz (.tail s c st))
  (h1:c=zx->∀v,U.at s≠ .BD v) (h2:∀o,c=zz o->∀t cs y,U.at s= yi t cs y->o∉y):FR (γ.GW g x) β B U tmps w:=by
 refine⟨A.size,λd=>?_⟩;have a:=A.JC d;cases h:U.at d with
 |undef=>trivial
 |skip=>rwa[h] at a
 |val u=>rw[h] at a;exact B3.mono (IG γ g x) _ _ a
 |RO b=>rwa[h] at a
 |BD u=>rw[h] at a;refine⟨B3.mono (IG γ g x) _ _ a.1,a.2.GW z ?_⟩;grind
 |box t cs y=>
  rw[h] at a;let⟨r,f,q,us,e,p,n,m,l⟩:=a;have E:β d≠g:=λD=>by rw[D,z] at f;cases f
  refine⟨r,by simp[Gh.GW,Aa E];exact f,q,us,e,p,Bt.mono (IG γ g x) _ _ n,m,λo C=>?_⟩;let⟨u,v,k,j,i⟩:=l o C;refine⟨u,v,k,j,i.GW z ?_⟩;grind
 |Ge s' o=>rwa[h] at a
def Dp.GW(d:Dp C γ0 w0 γ β U h a w){g s st s':Nat}{c c':Option Nat}(i:γ.BD g=zz (.tail s c st))(hB:w0.heap.size<=g)
  (h1:c=zx->∀v,U.at s≠ .BD v) (m:∀o,c=zz o->∀e cs f,U.at s= yi e cs f->o∉f):Dp C γ0 w0 (γ.GW g (.tail s' c' st)) β U h a w:=by
 refine⟨d.ED.GW i,d.fr.GW i h1 m,?_,d.defers,λx cs j=>Dr.mono (IG γ g _) _ _ _ (d.IF x cs j)⟩;refine⟨d.Ex.le.trans (IG γ g _),d.Ex.size,d.Ex.os,d.Ex.tape,d.Ex.output,λb l k=>?_⟩;.let⟨p,q⟩:=d.Ex.Qt b l k;exact⟨p,by simp[Gh.GW,Aa (Ab:b≠g)];exact q⟩
def B5.Gs{s:Nat}{x:Fb}(a:s<zy U):B5.at (U.set s x) s=x:=by simp[B5.at,yj,a]
def B5.Ht{s t:Nat}{x:Fb}(a:s≠t):B5.at (U.set s x) t=U.at t:=by simp[B5.at,yj,Av a]
def B5.RY{s:Nat}(a:U.at s≠ wy):s<zy U:=by
 obtain h|h:=AQ s (zy U)
 .exact h
 .cases a (by simp[B5.at,yj,Lp h])
def Dp.take(m:Dp C γ0 w0 γ β U h a w){s:Nat}{v:Ad}(l:U.at s= .BD v)(s':Nat)(c':Option Nat):
  ∃f,γ.le f/\Dp C γ0 w0 f β (U.set s (z0 v)) h a w/\B3 f v (a.tmps.getD s undef)/\Kk f w0.heap.size w s' c' (a.tmps.getD s undef) v:=by
 have p:=m.fr.JC s;rw[l] at p;let⟨k,j⟩:=p;have q:Dp C γ0 w0 γ β (U.set s (z0 v)) h a w:=m.xE k;obtain j|⟨g,n,cap,us,e,z,AH,h1,t,d,b,c⟩:=j
 .exact⟨γ,.refl _,q,k,.inl j⟩
 .refine⟨γ.GW g (.tail s' c' (n*z)),IG _ _ _,q.GW d b (λ_ u=>?_) (λo j=>by cases j),B3.mono (IG _ _ _) _ _ k,.inr ⟨g,n,cap,us,e,z,AH,h1,t,by simp[Gh.GW],b,c⟩⟩;rw[B5.Gs (B5.RY (by rw[l];simp))];simp
def nH{B s d:Nat}{e b:Fb}{v:Value}(c:Nu γ β B w s e v)(a:JS e=zz b):Nu γ β B w d b v:=by
 cases e<;>simp[JS] at a;.subst a;exact c
 .subst a;exact c
 .subst a;exact c.1
 .subst a;exact c
def Qv{ws:List (Nat×Fb)}(h:∀p∈ws,∀cs b,p.2≠ yi 0 cs b):(FA.pure ws).news=[]:=by
 simp only[FA.news,List.filterMap_eq_nil_iff];rintro⟨s,x⟩ c;have:=h _ c;cases x with
 |box a cs b=>
  cases a with
  |zero=>cases (this cs b) rfl
  |succ n=>rfl
 |_=>rfl
def Vt{v:Value}{e:Fb}(a:EN C U (.const v)=zz e):(∀B d,Nu γ β B w d e v)/\∀c cs i,e≠ yi c cs i:=by
 unfold EN at a;split at a;.grind
 next b=>cases b;cases a;exact⟨λ_ _=>rfl,λ_ _ _ h=>by cases h⟩
 next b=>cases b;cases a;exact⟨λ_ _=>⟨rfl,.inl (.inl rfl)⟩,λ_ _ _ h=>by cases h⟩
 .rename_i b;cases b;cases f:NL v with
  |none=>rw[f] at a;cases a
  |some u=>rw[f] at a;cases a;exact⟨λ_ _=>Gr f,λ_ _ _ h=>by cases h⟩
 .grind
 .grind
def It{s:Nat}{a:Fb}(b:EN C U (.tmp s)=zz a):U.at s=a:=EZ b
def iw{x:Operand}{v:Ad}(a:EN C U x=zz (.BD v))(b:∀c,x≠ .const c):∃s,x= .tmp s/\U.at s= .BD v:=by
 cases x with
 |tmp s=>exact⟨s,rfl,It a⟩
 |const c=>cases (b c) rfl
 |global g=>have kG:(C.IF g).map (λcs=>Fb.val (Ad.CO cs))=zz (.BD v):=a;simp_all
 |func f=>cases a
def Vu{x:Operand}{d:Nat}{u:Bool}{r:FA}{B:IT->Ak->Option LI}{g:B5}{h':Ak}(i:MA C U x d u=zz r)(j:r.PD C B (U.drop r.news) h g h')
  (l:Dp C γ0 w0 γ β U h a w):∃m,Dp C γ0 w0 m β g h' (a.put (zz d) (a.eval x)) w:=by
 unfold MA at i;split at i;next s _ _ _ k=>cases i;rw[Qv AF] at j;obtain⟨rfl,rfl⟩:=j;refine⟨γ,l.put (d:=zz d) λt z=>?_⟩;have E:=Vs l s;rw[It k] at E;exact E.1
 next v A k=>cases i;let⟨p,q⟩:=Vt (γ:=γ) (β:=β) (w:=w) k;rw[Qv (zv (λcs y=>q 0 cs y))] at j;obtain⟨rfl,rfl⟩:=j;exact⟨γ,l.put (d:=zz d) λt _=>p _ t⟩
 .rename_i v D k;split at i;.cases i;obtain⟨s,rfl,e⟩:=iw k (λc o=>D c o);rw[Qv (by simp[Vm])] at j;obtain⟨rfl,rfl⟩:=j;let⟨m,E7,H,J,f⟩:=l.take e d zx;exact⟨m,H.put (d:=zz d) λt z=>by cases z;exact⟨J,f⟩⟩
  .simp only[JS,Cb] at i;cases i;rw[Qv AF] at j;obtain⟨rfl,rfl⟩:=j;let⟨s,h1,_⟩:=HD l k;exact⟨γ,l.put (d:=zz d) λt z=>h1.1⟩
 .rename_i A _ _ _ k;cases o:JS A with
  |none=>rw[o] at i;cases i
  |some b=>
   rw[o] at i;cases i;have F:∀cs y,b≠ yi 0 cs y:=by intro cs y G;subst G;cases A<;>simp[JS] at o
   rw[Qv (zv F)] at j;obtain⟨rfl,rfl⟩:=j;let⟨s,h1,_⟩:=HD l k;exact⟨γ,l.put (d:=zz d) λt z=>nH h1 o⟩
 .cases i
end
end Go.Am
end
section
namespace Go.Am
open Go
def bJ{s:Sem Value}{v:Value}(h:S7 s=zz v):s= .pure v:=by cases s<;>simp[S7] at h;subst h;rfl
section
variable{P:Program}{γ:Gh}{w:World}
def xF{j:BinOp}{k l:IntKind}{x y:Int}{u:Ad}(t:TypeId)(c b:Operand)(h:t_ j k x l y=zz u):
  ∃v,(do eqGuard j t c b (zj k x) (zj l y);binOp j t (zj k x) (zj l y):Sem Value).run P w= y5 v w/\B3 γ u v:=by
 rw[t_] at h;cases m:S7 (binOp j 0 (zj k x) (zj l y)) with
 |none=>rw[m] at h;cases h
 |some v=>
  rw[m] at h;have e:binOp j t (zj k x) (zj l y)= .pure v:=by rw[<-(bJ m)];cases j<;>rfl
  have d:eqGuard j t c b (zj k x) (zj l y)=pure ():=by cases j<;>rfl
  refine⟨v,by rw[d,e];rfl,?_⟩;simp[CR] at h;split at h<;>cases h<;>rfl
def nI(l:List UInt8):(x8 ⟨l⟩).toList=l:=ByteArray.toList_mk l
def xG{i:BinOp}{x y:Aj}{u:Ad}(t:TypeId)(d c:Operand)(h:wZ i x y=zz u):
  ∃v,(do eqGuard i t d c (zi ⟨⟨x⟩⟩) (zi ⟨⟨y⟩⟩);binOp i t (zi ⟨⟨x⟩⟩) (zi ⟨⟨y⟩⟩):Sem Value).run P w= y5 v w/\B3 γ u v:=by
 have e:eqGuard i t d c (zi ⟨⟨x⟩⟩) (zi ⟨⟨y⟩⟩)=pure ():=by cases i<;>rfl
 have b:binOp i t (zi ⟨⟨x⟩⟩) (zi ⟨⟨y⟩⟩)=Op.stringOp i ⟨⟨x⟩⟩ ⟨⟨y⟩⟩:=by cases i<;>rfl
 rw[e,b];unfold wZ at h;cases i<;>simp only at h<;>first
  |cases h;done
  |(simp only[Op.stringOp,nI];cases h;exact⟨_,rfl,rfl⟩)
  | (split at h
     . rename_i E7
       cases h
       have l : ¬ ((((x8 ⟨x⟩).size + (x8 ⟨y⟩).size : Nat) : Int) > IntKind.i64.max) := by
         have f : (x8 ⟨x⟩).size = zy x := rfl
         have b : (x8 ⟨y⟩).size = zy y := rfl
         rw [f, b]
         have : IntKind.i64.max = 9223372036854775807 := AR
         rw [this]
         omega
       simp only [Op.stringOp, Aa l]
       refine ⟨_, rfl, ?_⟩
       first
         | (congr 1; done)
         | (congr 1; apply ByteArray.ext; simp)
     . cases h)
section
variable{t:TypeId}
def iy(h:Gm P t=zz zx):(isAgg t).run P w= y5 zr w:=by
 rw[Gm] at h;split at h;.simp_all
 .simp_all
 next d h1 h2 b=>simp only[isAgg,Sem.run_bind,run_underlying b,zg];rfl
 .cases h
def Us{n:Nat}(h:Gm P t=zz (zz n)):(isAgg t).run P w= y5 zp w/\Ce P t=zz n:=by
 rw[Gm] at h;split at h
 .rename_i f d;cases c:Ce P t with
  |none=>rw[c] at h;cases h
  |some m=>rw[c] at h;cases h;exact⟨by simp[isAgg,run_underlying d],rfl⟩
 .rename_i f _ d;cases c:Ce P t with
  |none=>rw[c] at h;cases h
  |some m=>rw[c] at h;cases h;exact⟨by simp[isAgg,run_underlying d],rfl⟩
 .cases h
 .cases h
def El{n:Nat}(h:Ce P t=zz n):(sizeOf t).run P w= y5 n w:=by
 rw[Ce] at h;cases hi:P.info? t with
 |none=>rw[hi] at h;cases h
 |some i=>rw[hi] at h;cases h;simp[sizeOf,typeInfo,hi]
def xH{b:Option Nat}{cs:List Ad}{us:Array Value}{off:Nat}{u:Ad}(i:Gm P t=zz b)(h:Bt γ cs us.toList)(h1:∀v∈us.toList,v.oneCell'=zp)
  (c:Gp cs off b=zz u):∃v,(part t us off).run P w= y5 v w/\B3 γ u v:=by
 cases b with
 |none=>
  let⟨v,f,d⟩:=h.get c;refine⟨v,?_,d⟩;have l:=zv f
  simp[part,iy i,l]
 |some n=>
  let⟨k,j⟩:=Us (w:=w) i;replace c:(if off+n<=zy cs then zz (Ad.agg ((cs.drop off).take n)) else zx)=zz u:=c;split at c
  .cases c;refine⟨.agg (us.extract off (off+n)),by simp[part,k,El j],us.extract off (off+n),rfl,?_,?_⟩;.have:=(h.drop off).take n;simp_all
   .intro v f;refine h1 v ?_;rw[iJ,Mv] at f;grind
  .cases c
end
end
section
variable{x y:Ad}{b:Bool}
def ŉ(h:Ns .b x y=zz b):∃p q,x= .bool p/\y= .bool q/\(p==q)=b:=by unfold Ns at h;grind
def Ŋ(h:Ns .i x y=zz b):∃k p q,x= .int k p/\y= .int k q/\(p==q)=b:=by unfold Ns at h;grind
def ŋ(h:Ns .s x y=zz b):∃p q,x= .str p/\y= .str q/\(p==q)=b:=by unfold Ns at h;grind
end
def RZ:∀{a c:List FK} {d ys:List Ad} {b:Bool},EI (a++c) d ys=zz b->
  ∃i f,EI a (d.take (zy a)) (ys.take (zy a))=zz i/\EI c (d.drop (zy a)) (ys.drop (zy a))=zz f/\b=(i&&f)
 |[],c,d,ys,b,h=>⟨zp,b,by simp[EI],zv h,AF⟩
 |k::a,c,[],ys,b,h=>by cases ys<;>simp[EI] at h
 |k::a,c,x::d,[],b,h=>by simp[EI] at h
 |k::a,c,x::d,y::ys,b,h=>by
  simp[CS,EI] at h;split at h;next e es h1 j=>cases h;let⟨i,f,p,q,r⟩:=RZ j;refine⟨e&&i,f,?_,zv q,by rw[r,Bool.and_assoc]⟩;simp[Bg,Im,EI,h1,p]
  .cases h
def R2:∀{c:List FK} {a ys:List Ad} {b:Bool},EI c a ys=zz b->zy a=zy c/\zy ys=zy c
 |[],a,ys,b,h=>by cases a<;>cases ys<;>simp[EI] at h⊢
 |k::c,a,ys,b,h=>by
  cases a<;>cases ys<;>simp[EI] at h;split at h;next h1 d=>let⟨p,q⟩:=R2 d;simp[p,q]
  .cases h
section
variable{P:Program}{γ:Gh}{w:World}
def kH:∀{d:Nat} {t:TypeId} {a:List FK},RT P d t=zz a->Ce P t=zz (zy a)
 |0,t,a,h=>by cases h
 |d+1,t,a,h=>by simp[RT] at h;grind
def iz{b:List FK}{k:FK}{t:TypeId}(h:(if Ce P t=zz 1 then zz [k] else zx)=zz b):b=[k]:=by simp_all
def H6{t:TypeId}{us:Array Value}{off:Nat}{v:Value}{d:TypeDesc}(h:P.underlying t=zz d)(h1:∀j,d≠ .struct j)(h2:∀n e,d≠ .array n e)(f:us[off]?=zz v):
  (part t us off).run P w= y5 v w:=by
 have i:(isAgg t).run P w= y5 zr w:=by simp only[isAgg,Sem.run_bind,run_underlying h,zg];simp_all
 simp[part,i,f]
def Lt{l:List Ad}{off:Nat}{x:Ad}(h:(l.drop off).take 1=[x]):l[off]?=zz x:=by have:=Cx (·[0]?) h;grind
def bK{k:FK}{a ys:List Ad}{b:Bool}(h:EI [k] a ys=zz b):∃x y,a=[x]/\ys=[y]/\Ns k x y=zz b:=by cases a<;>cases ys<;>simp[EI] at h;rename_i x a y ys;cases a<;>cases ys<;>simp[EI] at h;grind
mutual
def xI:∀{d D:Nat},d<=D->∀{t:TypeId} {ks:List FK},RT P d t=zz ks->∀(us vs:Array Value) (cs ds:List Ad) (off:Nat) (b:Bool),Bt γ cs us.toList->Bt γ ds vs.toList->
  EI ks ((cs.drop off).take ks.length) ((ds.drop off).take ks.length)=zz b->
  ∃x y,(part t us off).run P w= .ok x w/\(part t vs off).run P w= .ok y w/\(Op.equalIn D t x y).run P w= .ok b w
 |0,_,_,_,_,h=>by cases h
 |d+1,0,hd,_,_,_=>Ab
 |d+1,D+1,hd,t,ks,h=>by
  intro us vs cs ds off b hu hv he;have MR:=kH h;simp only[RT] at h;split at h;.rename_i kI;have:=iz h;subst this;obtain⟨x,y,m,l,k⟩:=bK he;obtain⟨x',i,g⟩:=hu.get (Lt m);obtain⟨c,f,e⟩:=hv.get (Lt l);refine⟨x',c,H6 kI AF AF (by simpa using i),H6 kI AF AF (by simpa using f),?_⟩;obtain⟨o,n,rfl,rfl,j⟩:=ŉ k;rw[g,e,run_equalIn_bool' w D t _ _ kI,<-j]
  .rename_i kk kI;have:=iz h;subst this;obtain⟨x,y,m,l,k⟩:=bK he;obtain⟨x',i,g⟩:=hu.get (Lt m);obtain⟨c,f,e⟩:=hv.get (Lt l);refine⟨x',c,H6 kI AF AF (by simpa using i),H6 kI AF AF (by simpa using f),?_⟩;obtain⟨q,o,n,rfl,rfl,j⟩:=Ŋ k;rw[g,e,run_equalIn_int w D t _ _ _ _ kI,<-j]
  .rename_i kI;have:=iz h;subst this;obtain⟨x,y,m,l,k⟩:=bK he;obtain⟨x',i,g⟩:=hu.get (Lt m);obtain⟨c,f,e⟩:=hv.get (Lt l);refine⟨x',c,H6 kI AF AF (by simpa using i),H6 kI AF AF (by simpa using f),?_⟩;obtain⟨o,n,rfl,rfl,j⟩:=ŋ k;rw[g,e,run_equalIn_string w D t _ _ kI,nI,nI,<-j]
  .rename_i fs kI;split at h
   .rename_i p Gj;split at h
    .rename_i hc;cases h;have f_:Gm P t=zz (zz ks.length):=by simp[Gm,kI,MR]
     obtain⟨ha,hs⟩:=Us (w:=w) f_;refine⟨.agg (us.extract off (off+ks.length)),.agg (vs.extract off (off+ks.length)),by simp[part,ha,El hs],by simp[part,ha,El hs],?_⟩;have aR6:P.underlying t=zz (.struct (P.fieldsOf t)):=by simp[Program.fieldsOf,kI]
     rw[run_equalIn_struct w D t _ _ aR6 hc.2];have hf:(P.fieldsOf t).toList=fs.toList:=by simp[Program.fieldsOf,kI]
     rw[hf];have wS:Bt γ ((cs.drop off).take ks.length) (us.extract off (off+ks.length)).toList:=by have:=(hu.drop off).take ks.length;simpa[iJ,Mv] using this
     have DP:Bt γ ((ds.drop off).take ks.length) (vs.extract off (off+ks.length)).toList:=by have:=(hv.drop off).take ks.length;simpa[iJ,Mv] using this
     refine kJ (Nat.le_of_succ_le_succ hd) fs.toList Gj _ _ _ _ _ wS DP ?_;simpa using he
    .cases h
   .cases h
  .cases h
def kJ:∀{d D:Nat},d<=D->∀(fs:List Field) {off:Nat} {ks:List FK},aX (RT P d) fs off=zz ks->∀(us vs:Array Value) (cs ds:List Ad) (b:Bool),Bt γ cs us.toList->Bt γ ds vs.toList->
  EI ks (cs.drop off) (ds.drop off)=zz b->(Op.eqFields D us vs fs).run P w= .ok b w
 |d,D,hd,[],off,ks,h=>by
  intro us vs cs ds b hu hv he;cases h;have:b=zp:=by cases h1:cs.drop off<;>cases h2:ds.drop off<;>rw[h1,h2] at he<;>simp[EI] at he;exact he
  subst this;rfl
 |d,D,hd,f::fs,off,ks,h=>by
  intro us vs cs ds b hu hv he;simp only[aX] at h;split at h
  .rename_i hc;obtain⟨hn,aMr⟩:=hc;split at h
   .rename_i c iV;cases hr:aX (RT P d) fs (off+c.length) with
    |none=>rw[hr] at h;cases h
    |some j=>
     rw[hr] at h;cases h;obtain⟨b1,b2,l,k,rfl⟩:=RZ he;obtain⟨x,y,i,g,e⟩:=xI hd iV _ _ _ _ _ _ hu hv l;simp only[Op.eqFields,hn,BR,Ai,BV,aMr,Sem.run_bind,i,g,e,Result.andThen_ok];cases b1;.rfl
     .simp only[m9,Cy,DW,nA];exact kJ hd fs hr _ _ _ _ _ hu hv (by simpa[FJ] using k)
   .cases h
  .cases h
end
def xJ{z:BinOp}{t:TypeId}{d c:Operand}{r:Bool}{p:List FK}{a b:List Ad}{x y:Value}{u:Ad}(O:(z= .eql/\r=zr)\/(z= .neq/\r=zp))
  (F:P.eqGuardType P.depth t=zr) (E:RT P 20 t=zz p) (Q:∃H,P.underlying t=zz (.struct H)) (M:B3 γ (.agg a) x) (L:B3 γ (.agg b) y) (h:(EI p a b).map (λe=>Ad.bool (e != r))=zz u):
  ∃v,(do eqGuard z t d c x y;binOp z t x y:Sem Value).run P w= y5 v w/\B3 γ u v:=by
 obtain⟨us,rfl,C,_⟩:=M;obtain⟨q,rfl,B,_⟩:=L;cases A:EI p a b with
 |none=>rw[A] at h;cases h
 |some e=>
  rw[A] at h;cases h;let⟨K,m⟩:=R2 A;let⟨J,j,i,g,f⟩:=xI (w:=w) (Ab:20<=10000) E us q a b 0 e C B (by rwa[HK,HK,AL (OC K),AL (OC m)]);let⟨H,R⟩:=Q;have N:Gm P t=zz (zz (zy p)):=by simp[Gm,R,kH E]
  let⟨G,D⟩:=Us (w:=w) N;have o:us.extract 0 (zy p)=us:=by
   have:us.size=zy p:=by have:=C.length;simp at this;omega
   rw[<-this];simp
  have n:q.extract 0 (zy p)=q:=by
   have:q.size=zy p:=by have:=B.length;simp at this;omega
   rw[<-this];simp
  have l:J= .agg us:=by simp[part,G,El D,o] at i;exact i.symm
  have k:j= .agg q:=by simp[part,G,El D,n] at g;exact g.symm
  subst l;subst k;rcases O with⟨rfl,rfl⟩|⟨rfl,rfl⟩
  .refine⟨zd e,by simp[run_eqGuard_agg w .eql t d c us q F,run_eql_struct,f],?_⟩;show Value.bool e=Value.bool _;cases e<;>rfl
  .refine⟨zd (!e),by simp[run_eqGuard_agg w .neq t d c us q F,run_neq_struct,f],?_⟩;show Value.bool _=Value.bool _;cases e<;>rfl
end
end Go.Am
end
open Option renaming map→wa
open Go.Next renaming value→y7
open Go.Op renaming equalIn→z7
open Go.Program renaming elem→yd
open Go.Instr renaming sliceBounds→y8,index→x4,indexAt→wm
open Go.Builtin renaming len_→xl
open Go.Addr renaming add→y6
section
namespace Go.Am
open Go
section
variable{P:Program}{γ:Gh}{w:World}
def Vv{a:Bool}{v:Value}(h:B3 γ (.bool a) v):v= zd a:=h
def Fl{k:IntKind}{a:Int}{v:Value}(h:B3 γ (.int k a) v):v= zj k a:=h
def Qw{a:Aj}{v:Value}(h:B3 γ (.str a) v):v= zi ⟨⟨a⟩⟩:=h
def Bt.aCZ{us:List Value}(h:Bt γ [] us):us=[]:=h
def Bt.Ob{a:Ad}{l:List Ad}{us:List Value}(h:Bt γ (a::l) us):∃u b,us=u::b/\B3 γ a u/\Bt γ l b:=h
def Bt.one{a:Ad}{us:List Value}(h:Bt γ [a] us):∃u,us=[u]/\B3 γ a u:=by obtain⟨u,Ei,rfl,h1,b⟩:=h;rw[b.aCZ];exact⟨u,rfl,h1⟩
def Bt.KO{a b:Ad}{us:List Value}(h:Bt γ [a,b] us):∃u v,us=[u,v]/\B3 γ a u/\B3 γ b v:=by obtain⟨u,Ei,rfl,h1,d⟩:=h;obtain⟨v,rfl,c⟩:=d.one;grind
def Bt.Ya{a b c:Ad}{us:List Value}(h:Bt γ [a,b,c] us):∃u v x,us=[u,v,x]/\B3 γ a u/\B3 γ b v/\B3 γ c x:=by obtain⟨u,Ei,rfl,h1,f⟩:=h;obtain⟨v,x,rfl,e,d⟩:=f.KO;grind
def Value.LO:Value->Bool
 | zd _| zc _| zq _ _ _| .func _ _ _| yw| .map _=>zp
 |_=>zr
section
variable{op:BinOp}{neg:Bool}(Qn:(op= .eql/\neg=false)\/(op= .neq/\neg=true))(t:TypeId)
def Xo(c b:Operand){x y:Value}(f:Value.LO x=zp)(j:Value.LO y=zp){e:Bool}
  (k:(Op.equal t x y).run P w= y5 e w):(do eqGuard op t c b x y;binOp op t x y:Sem Value).run P w= y5 (zd (e != neg)) w:=by
 have m:eqGuard op t c b x y=pure ():=by rcases Qn with⟨rfl,_⟩|⟨rfl,_⟩<;>cases x<;>simp[Value.LO] at f<;>rfl
 rw[m];rcases Qn with⟨rfl,rfl⟩|⟨rfl,rfl⟩
 .have h:binOp .eql t x y=(do pure (zd (<-Op.equal t x y))):=by cases x<;>simp[Value.LO] at f<;>cases y<;>simp[Value.LO] at j<;>rfl
  simp[h,k]
 .have h:binOp .neq t x y=(do pure (zd (!(<-Op.equal t x y)))):=by cases x<;>simp[Value.LO] at f<;>cases y<;>simp[Value.LO] at j<;>rfl
  simp[h,k]
def xK(d c:Operand)(f:P.underlying t=zz .bool)(a b:Bool):
  (do eqGuard op t d c (zd a) (zd b);binOp op t (zd a) (zd b):Sem Value).run P w= y5 (zd ((a==b) != neg)) w:=
 Xo Qn t d c rfl rfl (run_equalIn_bool' w 9999 t a b f)
end
section
variable{d:Nat}
def Y1{t e:TypeId}(ht:P.underlying t=zz (.pointer e))(hz:∃n,Ce P e=zz (n+1)){a b:Ad}{x y:Value}(hx:B3 γ a x)(f:B3 γ b y){r:Bool}(h:ua a b=zz r):
  (z7 (d+1) t x y).run P w= .ok r w/\Value.LO x=zp/\Value.LO y=zp:=by
 obtain⟨n,hn⟩:=hz;unfold ua at h;split at h
 .rename_i q;cases h;rw[show x= .pointer zx from hx];have:∃p,y= .pointer p/\p.isNone=q.isNone:=by
   cases q with
   |none=>exact⟨none,f,rfl⟩
   |some p=>obtain⟨i,o⟩:=p;obtain⟨b,_,rfl⟩:=f;exact⟨_,rfl,rfl⟩
  obtain⟨p,rfl,hp⟩:=this;exact⟨by simp[Op.equalIn,run_underlying ht,hp],rfl,rfl⟩
 .rename_i p;cases h;obtain⟨i,o⟩:=p;obtain⟨b,_,rfl⟩:=hx;rw[show y= .pointer none from f];exact⟨by simp[Op.equalIn,run_underlying ht],rfl,rfl⟩
 .rename_i p q;split at h;.rename_i he;cases h;subst he;obtain⟨i,o⟩:=p;obtain⟨b,hb,rfl⟩:=hx;obtain⟨b',TM,rfl⟩:=f;rw[hb] at TM;cases TM;exact⟨by simp[Op.equalIn,run_underlying ht,El hn,sameAddr],rfl,rfl⟩
  .cases h
 .cases h;rw[show x= .pointer none from hx];obtain⟨b,o,rfl,_⟩:=f;exact⟨by simp[Op.equalIn,run_underlying ht],rfl,rfl⟩
 .cases h;rw[show y= .pointer none from f];obtain⟨b,o,rfl,_⟩:=hx;exact⟨by simp[Op.equalIn,run_underlying ht],rfl,rfl⟩
 .cases h
def FB{t e:TypeId}(a:P.underlying t=zz (.slice e)){p q:Option Addr}{n c m k:Nat}(h:p=zx\/q=zx):
  (z7 (d+1) t (zq p n c) (zq q m k)).run P w= y5 (p.isNone&&q.isNone) w:=by
 cases p<;>cases q<;>simp at h<;>simp[z7,run_underlying a]
def Oc{t:TypeId}{a b:Array TypeId}{c:Bool}(e:P.underlying t=zz (.func a b c)){f:Fn}{x y:Array Value}:
  (z7 (d+1) t .nilFunc .nilFunc).run P w= y5 zp w/\(z7 (d+1) t .nilFunc (.func f x y)).run P w= .ok zr w/\(z7 (d+1) t (.func f x y) .nilFunc).run P w= .ok zr w:=by
 refine⟨?_,?_,?_⟩<;>simp[z7,run_underlying e]
def Nv{t k e:TypeId}(a:P.underlying t=zz (.map k e)){p q:Option Nat}(h:p=zx\/q=zx):
  (z7 (d+1) t (.map p) (.map q)).run P w= y5 (p.isNone&&q.isNone) w:=by
 cases p<;>cases q<;>simp at h<;>simp[z7,run_underlying a]
def Y2{t:TypeId}{k:NK}(i:match k with| .sl=>∃e,P.underlying t=zz (.slice e)| .fn=>∃a b c,P.underlying t=zz (.func a b c)| .mp=>∃a b,P.underlying t=zz (.map a b))
  {a b:Ad} {x y:Value} (l:B3 γ a x) (j:B3 γ b y) {r:Bool} (h:ub k a b=zz r):
  (z7 (d+1) t x y).run P w= y5 r w/\Value.LO x=zp/\Value.LO y=zp:=by
 unfold ub at h;split at h;case h_1=>let⟨e,i⟩:=i;cases h;rw[show x= zq zx 0 0 from l,show y= zq zx 0 0 from j];exact⟨FB i (.inl rfl),rfl,rfl⟩
 case h_2=>let⟨e,i⟩:=i;cases h;rw[show x= zq zx 0 0 from l];obtain⟨_,_,rfl,_⟩:=j;exact⟨FB i (.inl rfl),rfl,rfl⟩
 case h_3=>let⟨e,i⟩:=i;cases h;rw[show y= zq zx 0 0 from j];obtain⟨_,_,rfl,_⟩:=l;exact⟨FB i (.inr rfl),rfl,rfl⟩
 case h_4=>let⟨e,i⟩:=i;cases h;rw[show x= zq zx 0 0 from l];obtain⟨_,rfl⟩:=j;exact⟨FB i (.inl rfl),rfl,rfl⟩
 case h_5=>let⟨e,i⟩:=i;cases h;rw[show y= zq zx 0 0 from j];obtain⟨_,rfl⟩:=l;exact⟨FB i (.inr rfl),rfl,rfl⟩
 case h_6=>let⟨e,i⟩:=i;cases h;rw[show x= zq zx 0 0 from l];obtain⟨_,_,_,rfl,_⟩:=j;exact⟨FB i (.inl rfl),rfl,rfl⟩
 case h_7=>let⟨e,i⟩:=i;cases h;rw[show y= zq zx 0 0 from j];obtain⟨_,_,_,rfl,_⟩:=l;exact⟨FB i (.inr rfl),rfl,rfl⟩
 case h_8=>let⟨_,_,_,i⟩:=i;cases h;rw[show x= yw from l,show y= yw from j];exact⟨(Oc i (f:= .func 0) (x:=#[]) (y:=#[])).1,rfl,rfl⟩
 case h_9=>let⟨_,_,_,i⟩:=i;cases h;rw[show x= yw from l];obtain⟨_,_,rfl,_⟩:=j;exact⟨(Oc i).2.1,rfl,rfl⟩
 case h_10=>let⟨_,_,_,i⟩:=i;cases h;rw[show y= yw from j];obtain⟨_,_,rfl,_⟩:=l;exact⟨(Oc i).2.2,rfl,rfl⟩
 case h_11=>
  rename_i q;let⟨_,_,i⟩:=i;cases h;rw[show x= .map zx from l];cases q with
  |none=>rw[show y= .map zx from j];exact⟨Nv i (.inl rfl),rfl,rfl⟩
  |some id=>obtain⟨b,_,rfl⟩:=j;exact⟨Nv i (.inl rfl),rfl,rfl⟩
 case h_12=>let⟨_,_,i⟩:=i;cases h;rw[show y= .map zx from j];obtain⟨b,_,rfl⟩:=l;exact⟨Nv i (.inr rfl),rfl,rfl⟩
 .cases h
end
section
variable{op:BinOp}{args:List Ad}{u:Ad}
def M_(h:AB (.int op) args=zz u):∃k a l b,args=[.int k a,.int l b]/\t_ op k a l b=zz u:=by simp[AB] at h;grind
def N_(h:AB (.str op) args=zz u):∃a b,args=[.str a,.str b]/\wZ op a b=zz u:=by simp[AB] at h;grind
end
def xL{B:BinOp}{t:TypeId}{p:Pw}(o:S9 P B t=zz p)(f c:Operand){args:List Ad}{x y:Value}(D:Bt γ args [x,y]){u:Ad}(h:AB p args=zz u):
  ∃v,(do eqGuard B t f c x y;binOp B t x y:Sem Value).run P w= y5 v w/\B3 γ u v:=by
 rw[S9] at o;split at o;.cases o;obtain⟨k,a,l,b,rfl,h⟩:=M_ h;let⟨_,_,e,s,q⟩:=D.KO;cases e;rw[Fl s,Fl q];exact xF t f c h
 .cases o;obtain⟨a,b,rfl,h⟩:=N_ h;let⟨_,_,e,s,q⟩:=D.KO;cases e;rw[Qw s,Qw q];exact xG t f c h
 .rename_i d h1 L C;obtain⟨z,F,g⟩:∃z,((B= .eql/\z=zr)\/(B= .neq/\z=zp))/\Xf P t z d=zz p:=by cases B<;>first|cases o;done|exact⟨zr,.inl ⟨rfl,rfl⟩,o⟩|exact⟨zp,.inr ⟨rfl,rfl⟩,o⟩
  clear h1 L o;have o:=g;clear g;unfold Xf at o;split at o
  .cases o;simp[AB] at h;split at h;.let⟨_,_,e,s,q⟩:=D.KO;cases e;cases h;rw[Vv s,Vv q];exact⟨_,xK F t f c C _ _,rfl⟩
   .cases h
  .split at o
   .rename_i K;cases G:RT P 20 t with
    |none=>rw[G] at o;cases o
    |some ks=>
     rw[G] at o;cases o;simp[AB] at h;split at h;.let⟨_,_,e,s,q⟩:=D.KO;cases e;exact xJ F K G ⟨_,C⟩ s q h
     .cases h
   .cases o
  .split at o;.cases o
   .rename_i e E;cases o;simp[AB] at h;split at h
    .rename_i a b;let⟨_,_,e,s,q⟩:=D.KO;cases e;cases A:ua a b with
     |none=>rw[A] at h;cases h
     |some r=>rw[A] at h;cases h;let⟨m,j,i⟩:=Y1 (w:=w) (d:=9999) C (by cases H:Ce P e with|none=>rw[H] at E;exact absurd rfl E|some n=>cases n with|zero=>rw[H] at E;exact absurd rfl E|succ n=>exact⟨n,rfl⟩) s q A;exact⟨_,Xo F t f c j i m,rfl⟩
    .cases h
  all_goals first
   |cases o;done
   | (cases o
      simp[AB] at h
      split at h
      . rename_i a b
        obtain ⟨_, _, e, s, q⟩ := D.KO
        cases e
        cases A : ub _ a b with
        | none => rw [A] at h; cases h
        | some r =>
          rw [A] at h; cases h
          obtain ⟨m, j, i⟩ := Y2 (w := w) (P := P) (t := t) (d := 9999) (by first | exact ⟨_, C⟩ | exact ⟨_, _, C⟩ | exact ⟨_, _, _, C⟩) s q A
          exact ⟨_, Xo F t f c j i m, rfl⟩
      . cases h)
 .cases o
end
section
variable{P:Program}{γ:Gh}{w:World}
def aIq{d:UnOp}{a u:Ad}{x:Value}(b:B3 γ a x)(h:aIg d a=zz u):∃v,(Op.unary d x).run P w= y5 v w/\B3 γ u v:=by
 unfold aIg at h;split at h;.cases h;rw[Vv b];exact⟨_,rfl,rfl⟩
 .cases h;rw[Fl b];exact⟨_,rfl,rfl⟩
 .rename_i k n;rw[Fl b];rw[aGH] at h;cases c:S7 (Op.unary .xor (zj k n)) with
  |none=>rw[c] at h;cases h
  |some v=>
   rw[c] at h;simp[CR] at h;split at h;.cases h;exact⟨_,by rw[bJ c];rfl,rfl⟩
   .cases h
 .cases h
def nJ{c d:TypeId}{k l k':IntKind}{n:Int}(e:P.underlying c=zz (.int l))(f:P.underlying d=zz (.int k)):(convert c d (zj k' n)).run P w= y5 (zj k (k.wrap n)) w:=by simp[convert,run_underlying e,run_underlying f,Conv.intToInt]
def nK{c d:TypeId}{l k':IntKind}{n:Int}(e:P.underlying c=zz (.int l))(f:P.underlying d=zz .string):(convert c d (zj k' n)).run P w= y5 (zi (Utf8.encode n)) w:=by simp[convert,run_underlying e,run_underlying f,Conv.intToString]
def O_{t:TypeId}{f off:Nat}{b:Option Nat}(a:JR P t f=zz (off,b)){cs:List Ad}{x:Value}(i:B3 γ (.agg cs) x){u:Ad}(h:Gp cs off b=zz u):∃v,(Instr.field t x f).run P w= y5 v w/\B3 γ u v:=by
 rw[JR] at a;split at a
 .rename_i fs j;split at a
  .rename_i fd e;split at a;.rename_i n c h1 l;cases a;obtain⟨us,rfl,k,d⟩:=i;let⟨v,p,q⟩:=xH (w:=w) l k d h;exact⟨v,by simp[Instr.field,run_underlying j,e,asAgg,p],q⟩
   .cases a
  .cases a
 .cases a
def Ut{i:Int}{len j:Nat}(h:N6 i len=zz j):0<=i/\i<len/\i.toNat=j:=by rw[N6] at h;grind
def iX{t e:TypeId}{len n:Nat}{b:Option Nat}(m:P.underlying t=zz (.array len e))(r:Ce P e=zz n)(s:Gm P e=zz b){cs:List Ad}{x:Value}(l:B3 γ (.agg cs) x){k:IntKind}{i:Int}{j:Nat}
  (hi:N6 i len=zz j) {u:Ad} (h:Gp cs (j*n) b=zz u):∃v,(x4 t x (zj k i)).run P w= y5 v w/\B3 γ u v:=by
 obtain⟨us,rfl,o,a⟩:=l;let⟨f,d,c⟩:=Ut hi;let⟨v,p,q⟩:=xH (w:=w) s o a h;exact⟨v,by simp[x4,asIntOf,run_underlying m,f,d,El r,c,p],q⟩
def iY{t:TypeId}(c:P.underlying t=zz .string){s:Aj}{k:IntKind}{i:Int}{b:UInt8}(f:0<=i)(h:s[i.toNat]?=zz b):
  (x4 t (zi ⟨⟨s⟩⟩) (zj k i)).run P w= y5 (zj .u8 b.toNat) w:=by
 let⟨a,d⟩:=Aq.1 h;have e:(⟨⟨s⟩⟩:ByteArray)[i.toNat]?=zz b:=by rw[ByteArray.getElem?_lt' _ _ (a),<-d];rfl
 simp[x4,asIntOf,run_underlying c,f,e]
def uz{p u:Ad}{x:Value}{n:Nat}(d:B3 γ p x)(h:aR p n=zz u):∃a,x= zc (zz a)/\B3 γ u (zc (zz (a.add n))):=by
 unfold aR at h;split at h;next cs=>cases h;obtain⟨b,o,rfl,e⟩:=d;refine⟨_,rfl,b,o+n,?_,e.drop n⟩;rw[y6];split<;>simp_all
 next id o=>cases h;obtain⟨b,f,rfl⟩:=d;refine⟨_,rfl,b,f,?_⟩;rw[y6];split<;>simp_all
 .cases h
def xM{t:TypeId}{f off:Nat}{c:Option Nat}(d:JR P t f=zz (off,c)){p u:Ad}{x:Value}(j:B3 γ p x)(h:aR p off=zz u):∃v,(Instr.fieldAt t x f).run P w= y5 v w/\B3 γ u v:=by
 obtain⟨a,rfl,k⟩:=uz j h;refine⟨_,?_,k⟩;rw[JR] at d;split at d
 .rename_i fs e;split at d
  .rename_i fd i;split at d;.rename_i n b h1 h2;cases d;simp[Instr.fieldAt,run_underlying e,i,Instr.sureAddr,fieldPlace,El h1]
   .cases d
  .cases d
 .cases d
def i_{t e:TypeId}{n:Nat}(B:P.underlying t=zz (.slice e))(C:Ce P e=zz n){s u:Ad}{x:Value}(A:B3 γ s x){k:IntKind}{i:Int}(h:elemOf n s i=zz u):
  ∃v,(wm t x (zj k i)).run P w= y5 v w/\B3 γ u v:=by
 have F:P.underlying t=zz (.slice (P.elem t)):=by simp[yd,B]
 have D:P.elem t=e:=by simp[yd,B]
 unfold elemOf at h;split at h
 .rename_i z AH;split at h
  .rename_i m;subst m;split at h
   .rename_i K;cases q:AH[i.toNat]? with
    |none=>rw[q] at h;cases h
    |some row=>
     rw[q] at h;cases h;obtain⟨d,cap,rfl,E,p,H⟩:=A;let⟨hl,c⟩:=H.get q;have r:i<zy AH:=by grind
     have G:=Qs p E Ab;generalize d.block=b at*;generalize d.off=o at*;subst G;refine⟨zc (zz ((⟨b,o,zx⟩:Addr).add (i.toNat*z))),by rw[run_indexAt_slice w t _ _ _ _ _ F,Ae ⟨K,r⟩,D,El C];rfl,b,o+i.toNat*z,?_,c⟩;rw[y6];split<;>simp_all
   .cases h
  .cases h
 .rename_i id off len z;split at h
  .rename_i m;subst m;cases y:N6 i len with
   |none=>rw[y] at h;cases h
   |some j=>rw[y] at h;cases h;let⟨l,g,f⟩:=Ut y;subst f;obtain⟨b,cap,J,rfl,E,m⟩:=A;refine⟨zc (zz ((⟨b,off,zx⟩:Addr).add (i.toNat*z))),by rw[run_indexAt_slice w t _ _ _ _ _ F,Ae ⟨l,g⟩,D,El C];rfl,b,J,?_⟩;rw[y6];split<;>simp_all
  .cases h
 .cases h
def P_{t e:TypeId}{len n:Nat}(m:P.underlying t=zz (.array len e))(o:Ce P e=zz n){p u:Ad}{x:Value}(f:B3 γ p x){k:IntKind}{i:Int}{j:Nat}(r:N6 i len=zz j)(h:aR p (j*n)=zz u):
  ∃v,(wm t x (zj k i)).run P w= y5 v w/\B3 γ u v:=by
 have y:P.underlying t=zz (.array (P.arrayLen t) (P.elem t)):=by simp[yd,Program.arrayLen,m]
 have s:P.elem t=e:=by grind
 have q:P.arrayLen t=len:=by grind
 obtain⟨a,rfl,l⟩:=uz f h;let⟨d,c,b⟩:=Ut r;subst b;exact⟨_,by rw[run_indexAt_array w t _ _ _ y,q,Ae ⟨d,c⟩,s,El o];rfl,l⟩
def aC0{t ty:TypeId}{isStr:Bool}(d:if isStr=zp then P.underlying t=zz .string else∃e,P.underlying t=zz (.slice e)){k:Array TypeId}(i:k[0]?=zz t){s u:Ad}{x:Value}(j:B3 γ s x)(h:lenOf isStr s=zz u):
  ∃v,(xl k ty #[x]).run P w= y5 v w/\B3 γ u v:=by
 cases isStr with
 |true=>
  replace d:P.underlying t=zz .string:=d;unfold lenOf at h;split at h<;>first|cases h;done|skip
  simp[BV] at h;cases h;rw[Qw j];refine⟨_,by simp[xl,i,run_underlying d];rfl,rfl⟩
 |false=>
  obtain⟨e,d⟩:∃e,P.underlying t=zz (.slice e):=d;unfold lenOf at h;split at h;.cases h;obtain⟨c,cap,rfl,_⟩:=j;exact⟨_,by simp[xl,i,run_underlying d];rfl,rfl⟩
  .cases h;obtain⟨b,cap,_,rfl,_⟩:=j;exact⟨_,by simp[xl,i,run_underlying d];rfl,rfl⟩
  .cases h;rw[show x= zq zx 0 0 from j];exact⟨_,by simp[xl,i,run_underlying d];rfl,rfl⟩
  .cases h;obtain⟨b,rfl⟩:=j;exact⟨_,by simp[xl,i,run_underlying d];rfl,rfl⟩
  .cases h
  .cases h
def aC1{a:List Ad}{x:Value}(b:B3 γ (.tuple a) x){i:Nat}{u:Ad}(h:a[i]?=zz u):∃v,(Instr.extract x i).run P w= y5 v w/\B3 γ u v:=by
 obtain⟨us,rfl,d⟩:=b;let⟨v,c,q⟩:=d.get h;exact⟨v,by
  have:us[i]?=zz v:=zv c
  simp[Instr.extract,this],q⟩
end
section
variable{P:Program}{γ:Gh}{w:World}
def Qx{n:Int}{a j:Nat}(h:Fv n a=zz j):0<=n/\n<=a/\n.toNat=j:=by rw[Fv] at h;grind
def MB{lo hi:Option Value}{t:List Ad}{len cap l h:Nat}{isSlice:Bool}(q:En lo.isSome hi.isSome len t=zz (l,h))(s:Bt γ t (lo.toList++hi.toList))(hc:len<=cap):
  (y8 isSlice len cap lo hi zx).run P w= y5 (l,h,cap) w/\l<=h/\h<=len:=by
 cases lo<;>cases hi<;>simp[Option.isSome,En] at q
 .split at q;.cases q;exact⟨by simp[y8],AZ _,Af _⟩
  .cases q
 .rename_i v;split at q
  .rename_i k h';cases b:Fv h' len with
   |none=>rw[b] at q;cases q
   |some j=>rw[b] at q;cases q;let⟨f,g,d⟩:=Qx b;let⟨_,e,r⟩:=s.one;cases e;rw[Fl r];refine⟨?_,AZ _,Ab⟩;have:h'<=(cap:Int):=Ab;simp[y8,run_sliceBound,f,this,d]
  .cases q
 .rename_i p;split at q
  .rename_i k l';cases b:Fv l' len with
   |none=>rw[b] at q;cases q
   |some j=>rw[b] at q;cases q;let⟨f,g,d⟩:=Qx b;let⟨_,e,r⟩:=s.one;cases e;rw[Fl r];refine⟨?_,Ab,Af _⟩;simp[y8,run_sliceBound,f,g,d]
  .cases q
 .rename_i p v;split at q
  .rename_i k l' k' h';cases b:Fv h' len with
   |none=>rw[b] at q;cases q
   |some j=>
    rw[b] at q;simp only[CR] at q;cases c:Fv l' j with
    |none=>rw[c] at q;cases q
    |some i=>rw[c] at q;cases q;let⟨f,g,d⟩:=Qx b;let⟨o,n,m⟩:=Qx c;let⟨_,_,e,r,u⟩:=s.KO;cases e;rw[Fl r,Fl u];refine⟨?_,Ab,Ab⟩;have:h'<=(cap:Int):=Ab;simp[y8,run_sliceBound,f,this,o,d,m,n]
  .cases q
def GJ.slice{AH:List (List Ad)}{z b o:Nat}(h:GJ γ AH z b o)(l k:Nat):GJ γ ((AH.take k).drop l) z b (o+l*z):=by
 refine GJ.Ir λi r hi=>?_;rw[CF,Cw] at hi;split at hi;.let⟨p,q⟩:=h.get hi;grind
 .cases hi
def aC2{t:TypeId}{isStr:Bool}{size:Nat}(p:if isStr=zp then P.underlying t=zz .string else∃e,P.underlying t=zz (.slice e)/\Ce P e=zz size){s u:Ad}{x:Value}(K:B3 γ s x){F:List Ad}{lo hi:Option Value}
  (G:Bt γ F (lo.toList++hi.toList)) (h:Kg size isStr lo.isSome hi.isSome s F=zz u):
  ∃v,(Instr.sliceAt t x lo hi zx).run P w= .ok v w/\B3 γ u v:=by
 unfold Kg at h;split at h
 .split at h
  .rename_i s J;subst J;replace p:P.underlying t=zz .string:=p;cases r:En lo.isSome hi.isSome s.length F with
   |none=>rw[r] at h;cases h
   |some f=>
    obtain⟨l,k⟩:=f;rw[r] at h;cases h;obtain⟨c,i,g⟩:=MB (P:=P) (w:=w) (isSlice:=false) r G (Af _);rw[Qw K,run_sliceAt_string w t _ _ _ _ p];refine⟨.string ((⟨⟨s⟩⟩:ByteArray).extract l k),?_,?_⟩;.have e:(⟨⟨s⟩⟩:ByteArray).size=s.length:=rfl;simp only[Instr.slice,Sem.run_bind,run_underlying p,Result.andThen_ok];simp only[e,c,Option.isSome,Cy,DW,Sem.run_bind,Sem.run_pure,Result.andThen_ok]
    .show Value.string _=Value.string _;congr 1
     apply ByteArray.ext;apply IV;simp[ByteArray.data_extract,Mv,List.drop_take]
  .cases h
 .rename_i z AH;split at h
  .rename_i B;obtain⟨rfl,rfl⟩:=B;obtain⟨e,p,D⟩:∃e,P.underlying t=zz (.slice e)/\Ce P e=zz z:=p;have A:P.underlying t=zz (.slice (P.elem t)):=by simp[yd,p]
   have E:P.elem t=e:=by simp[yd,p]
   obtain⟨d,cap,rfl,B,C,O⟩:=K;cases r:En lo.isSome hi.isSome AH.length F with
   |none=>rw[r] at h;cases h
   |some f=>
    obtain⟨l,k⟩:=f;rw[r] at h;cases h;obtain⟨c,i,g⟩:=MB (P:=P) (w:=w) (isSlice:=true) r G B;rw[run_sliceAt_slice w t _ _ _ _ A,run_slice_any w t _ _ _ A,c,E,zg,El D];refine⟨_,rfl,?_⟩;show B3 γ (.sl z ((AH.take k).drop l)) (.slice (if cap=l then zz d else wa (λq:Addr=>q.add (l*z)) (zz d)) (k-l) (cap-l));have H:((AH.take k).drop l).length=k-l:=ES;by_cases y:cap=l;.have:(AH.take k).drop l=[]:=DR Ab;rw[this];simp only[y,BV];exact⟨d,l-l,ES,AF,.inr Ab,trivial⟩
    .rw[Aa y];have N:d=⟨d.block,d.off,zx⟩:=by
      rcases C with C|C
      .cases d;simp_all
      .omega
     generalize d.block=b at*;generalize d.off=o at*;subst N;refine⟨⟨b,o+l*z,zx⟩,cap-l,?_,Ab,.inl rfl,O.slice l k⟩;rw[H];simp only[Cb];unfold Addr.add;split<;>simp_all
  .cases h
 .rename_i id off n z;split at h
  .rename_i B;obtain⟨rfl,rfl⟩:=B;obtain⟨e,p,D⟩:∃e,P.underlying t=zz (.slice e)/\Ce P e=zz z:=p;have A:P.underlying t=zz (.slice (P.elem t)):=by simp[yd,p]
   have E:P.elem t=e:=by simp[yd,p]
   obtain⟨b,cap,j,rfl,B,L,Q⟩:=K;cases r:En lo.isSome hi.isSome n F with
   |none=>rw[r] at h;cases h
   |some f=>
    obtain⟨l,k⟩:=f;rw[r] at h;simp only[CR] at h;split at h
    .rename_i M;cases h;obtain⟨c,i,g⟩:=MB (P:=P) (w:=w) (isSlice:=true) r G B;rw[run_sliceAt_slice w t _ _ _ _ A,run_slice_any w t _ _ _ A,c,E,zg,El D];refine⟨_,rfl,b,cap-l,j,?_,Ab,⟨L.1,BC (Nat.sub_le _ _) L.2⟩,?_⟩;.show Value.slice (if cap=l then zz ⟨b,off,zx⟩ else wa (λq:Addr=>q.add (l*z)) (zz ⟨b,off,zx⟩)) (k-l) (cap-l)=_;rw[Aa Ab];simp only[Cb];unfold Addr.add;split<;>simp_all
     .rw[Q,nB,<-Ch,aR2 Ab]
    .rename_i M;cases h;obtain⟨c,i,g⟩:=MB (P:=P) (w:=w) (isSlice:=true) r G B;rw[run_sliceAt_slice w t _ _ _ _ A,run_slice_any w t _ _ _ A,c,E,zg,El D];by_cases y:cap=l;.refine⟨_,rfl,⟨b,off,zx⟩,cap-l,?_,AF,.inl rfl,trivial⟩;show Value.slice (if cap=l then zz ⟨b,off,zx⟩ else wa (λq:Addr=>q.add (l*z)) (zz ⟨b,off,zx⟩)) (k-l) (cap-l)=_;rw[Ae y,(Ab:k-l=0)];rfl
     .refine⟨_,rfl,(Addr.mk b off zx).add (l*z),cap-l,?_,AF,.inl ?_,trivial⟩;.show Value.slice (if cap=l then zz ⟨b,off,zx⟩ else wa (λq:Addr=>q.add (l*z)) (zz ⟨b,off,zx⟩)) (k-l) (cap-l)=_;rw[Aa y,(Ab:k-l=0)];rfl
      .unfold y6;split<;>simp_all
  .cases h
 .split at h;.cases h
  .rename_i J;have J:isStr=zr:=by simpa using J
   subst J;obtain⟨e,p,D⟩:∃e,P.underlying t=zz (.slice e)/\Ce P e=zz size:=p;have A:P.underlying t=zz (.slice (P.elem t)):=by simp[yd,p]
   have E:P.elem t=e:=by simp[yd,p]
   rw[show x= .slice zx 0 0 from K];cases r:En lo.isSome hi.isSome 0 F with
   |none=>rw[r] at h;cases h
   |some f=>obtain⟨l,k⟩:=f;rw[r] at h;cases h;obtain⟨c,i,g⟩:=MB (P:=P) (w:=w) (isSlice:=true) r G (Af _);rw[run_sliceAt_slice w t _ _ _ _ A,run_slice_any w t _ _ _ A,c,E,Result.andThen_ok,El D];refine⟨_,rfl,?_⟩;have:l=0:=Ab;subst this;have:k=0:=Ab;subst this;rfl
 .cases h
end
section
variable{P:Program}{γ:Gh}{w:World}
def IH{a:Ad}{v:Value}(h:B3 γ a v)(j:0<zy a.cells):Bt γ a.cells v.cells.toList/\∀u∈v.cells.toList,u.oneCell'=zp:=by
 cases a with
 |agg cs=>obtain⟨us,rfl,p,q⟩:=h;exact⟨p,q⟩
 |tuple vs=>exact absurd j (by simp[Ad.cells])
 |bool b=>rw[show v=_ from h];exact⟨⟨_,[],rfl,rfl,rfl⟩,Uu⟩
 |int k n=>rw[show v=_ from h];exact⟨⟨_,[],rfl,rfl,rfl⟩,Uu⟩
 |str s=>rw[show v=_ from h];exact⟨⟨_,[],rfl,rfl,rfl⟩,Uu⟩
 |slnil=>rw[show v=_ from h];exact⟨⟨_,[],rfl,rfl,rfl⟩,Uu⟩
 |FT z=>have e:=h;obtain⟨b,rfl⟩:=h;exact⟨⟨_,[],rfl,e,rfl⟩,Uu⟩
 |nilFunc=>rw[show v=_ from h];exact⟨⟨_,[],rfl,rfl,rfl⟩,Uu⟩
 |nilIface=>rw[show v=_ from h];exact⟨⟨_,[],rfl,rfl,rfl⟩,Uu⟩
 |ptr p=>
  have e:=h;cases p with
  |none=>rw[show v=_ from h];exact⟨⟨_,[],rfl,rfl,rfl⟩,Uu⟩
  |some p=>let⟨i,o⟩:=p;obtain⟨b,_,rfl⟩:=h;exact⟨⟨_,[],rfl,e,rfl⟩,Uu⟩
 |CO cs=>have e:=h;obtain⟨b,o,rfl,_⟩:=h;exact⟨⟨_,[],rfl,e,rfl⟩,Uu⟩
 |sl z AH=>have e:=h;obtain⟨d,cap,rfl,_⟩:=h;exact⟨⟨_,[],rfl,e,rfl⟩,Uu⟩
 |CK id off len z=>have e:=h;obtain⟨b,cap,_,rfl,_⟩:=h;exact⟨⟨_,[],rfl,e,rfl⟩,Uu⟩
 |map m=>
  have e:=h;cases m with
  |none=>rw[show v=_ from h];exact⟨⟨_,[],rfl,rfl,rfl⟩,Uu⟩
  |some id=>obtain⟨b,_,rfl⟩:=h;exact⟨⟨_,[],rfl,e,rfl⟩,Uu⟩
 |func fn f c=>have e:=h;obtain⟨fs,cs,rfl,_⟩:=h;exact⟨⟨_,[],rfl,e,rfl⟩,Uu⟩
 |iface t a=>have e:=h;obtain⟨u,rfl,_⟩:=h;exact⟨⟨_,[],rfl,e,rfl⟩,Uu⟩
def Qy:∀(b:List Value) (off j:Nat) (a:Array Value),off+j+zy b<=a.size->
  (b.zipIdx j).foldl (λcs (c,i)=>cs.setIfInBounds (off+i) c) a=(a.toList.take (off+j)++b++a.toList.drop (off+j+zy b)).toArray
 |[],off,j,a,h=>AF
 |v::b,off,j,a,h=>by
  simp only[tr,Ě];rw[Qy b off (j+1) _ (by simp at h⊢;omega)];simp[Bg] at h;have d:(a.toList.set (off+j) v).take (off+j+1)=a.toList.take (off+j)++[v]:=by rw[List.take_add_one,Rr (Af _),AT ES];rfl
  rw[(AF:(a.setIfInBounds (off+j) v).toList=a.toList.set (off+j) v),(Ab:off+(j+1)=off+j+1),d,j2 Ab];rw[(ES:off+j+(v::b).length=off+j+1+zy b)];simp
def bL{place:Nat->Option (Nat×Nat)}:∀{q:List (Nat×Nat)} {w:List Ad} {parts:List (Nat×Value)} {cs:List Ad} {us:Array Value} {x:List Ad},AP cs (q.zip w)=zz x->zy q=zy w->
  parts.map (λp=>place p.1)=q.map zz->Bt γ w (parts.map (·.2))->Bt γ cs us.toList->(∀u∈us.toList,u.oneCell'=zp)->
  ∃z,Instr.fill place us parts=zz z/\Bt γ x z.toList/\∀u∈z.toList,u.oneCell'=zp
 |[],w,parts,cs,us,x,h,y,s,A,t,h1=>by
  have:parts=[]:=zv s
  subst this;simp[List.zip_nil_left,AP] at h;cases h;exact⟨us,rfl,t,h1⟩
 |(off,size)::q,[],parts,cs,us,x,h,y,s,A,t,h1=>by simp at y
 |(off,size)::q,a::w,[],cs,us,x,h,y,s,A,t,h1=>by simp at s
 |(off,size)::q,a::w,(i,v)::parts,cs,us,x,h,y,s,A,t,h1=>by
  simp only[aWo,AP] at h;split at h
  .rename_i C;let⟨o,n,m⟩:=C;simp[Bn,FU] at s;let⟨_,_,e,D,b⟩:=A.Ob;simp[Bn,FU] at e;let⟨l,k⟩:=e;subst l;subst k;let⟨c,g⟩:=IH D Ab;have B:v.cells.size=size:=by have:=c.length;simp at this;omega
   have kE:us.size=zy cs:=by have:=t.length;exact zv this
   let⟨z,f,r2,d⟩:=bL (us:=(us.toList.take off++v.cells.toList++us.toList.drop (off+size)).toArray) h (zv y) s.2 b
    (by simpa using((t.take off).append c).append (t.drop (off+size)))
    (λu r=>by
     simp only[AA] at r;rcases r with(r|r)|r
     .exact h1 u (BQ r)
     .exact g u r
     .exact h1 u (BU r))
   refine⟨z,?_,r2,d⟩;simp only[Instr.fill,s.1];rw[Aa (by simp[B];omega)];rw[<-f];congr 1
   have j:=zv B
   rw[<-aWp,aR3,Qy v.cells.toList off 0 us (by simp[B];omega)];simp[j]
  .cases h
def iZ{v:Value}{a:Ad}(h:NL v=zz a):Bt γ a.cells v.cells.toList/\∀u∈v.cells.toList,u.oneCell'=zp:=by
 have c:=Gr (γ:=γ) h;unfold NL at h;split at h
 .rename_i cs;cases b:NX cs.toList with
  |none=>rw[b] at h;cases h
  |some bp=>rw[b] at h;cases h;exact Pg b
 .refine IH c ?_;unfold RP at h;split at h<;>first|(cases h;simp[Ad.cells];done)|skip
  .split at h;.cases h;simp[Ad.cells]
   .cases h
  .cases h
def Re{t:TypeId}{e:Array Field}(d:P.underlying t=zz (.struct e)){place:Nat->Option (Nat×Nat)}(c:∀(i:Nat) (f:Field) (n:Nat),e[i]?=zz f->Ce P f.type=zz n->place i=zz (f.offset,n)):
  ∀{parts:List (Nat×Operand)} {b:List (Nat×Nat)},LM P t parts=zz b->parts.map (λp=>place p.1)=b.map zz
 |[],b,h=>by cases h;rfl
 |(i,x)::rest,b,h=>by
  simp[LM,d] at h;split at h
  .rename_i f j;split at h;.rename_i n r h1 k;cases h;simp[c i f n j h1,Re d c k]
   .cases h
  .cases h
def R4{t e:TypeId}{len n:Nat}(b:P.underlying t=zz (.array len e))(c:Ce P e=zz n):
  ∀{parts:List (Nat×Operand)} {a:List (Nat×Nat)},LM P t parts=zz a->parts.map (λp=>zz (p.1*n,n))=a.map zz
 |[],a,h=>by cases h;rfl
 |(i,x)::rest,a,h=>by
  simp only[LM,b] at h;split at h
  .split at h;.rename_i n' r h1 d;cases h;rw[c] at h1;cases h1;simp[R4 b c d]
   .cases h
  .cases h
def Yb:∀(d:List Field),(d.all λf=>(Ce P f.type).isSome)=zp->∃places,d.mapM (λf=>(P.info? f.type).map λi=>(f.offset,i.size))=zz places/\
  ∀(i:Nat) (f:Field) (n:Nat),d[i]?=zz f->Ce P f.type=zz n->places[i]?=zz (f.offset,n)
 |[],_=>⟨[],rfl,AF⟩
 |f::d,h=>by
  simp only[nC,Bs] at h;let⟨c,h1,k⟩:=Yb d h.2;cases hi:P.info? f.type with
  |none=>simp[Ce,hi] at h
  |some b=>
   refine⟨(f.offset,b.size)::c,by simp[hi,h1],λi g n j e=>?_⟩;cases i with
   |zero=>simp at j;subst j;simp[Ce,hi] at e;simp[e]
   |succ i=>simpa using k i g n (zv j) e
def Q_{t:TypeId}{z:Ad}{parts:Array (Nat×Operand)}{A:List (Nat×Nat)}{O:Operand->Value}(o:Ip P t=zz z)(H:LM P t parts.toList=zz A)(q:Zs P t=zp){F:List Ad}
  (ha:Bt γ F ((parts.toList.map (·.2)).map O)) {u:Ad} (h:AB (.Fc z.cells A) F=zz u):∃v,(Instr.build t (parts.map λ(i,x)=>(i,O x))).run P w= y5 v w/\B3 γ u v:=by
 simp only[AB] at h;split at h
 .rename_i J;cases y:AP z.cells (A.zip F) with
  |none=>rw[y] at h;cases h
  |some cs=>
   rw[y] at h;cases h;rw[Ip] at o;cases hi:P.info? t with
   |none=>rw[hi] at o;cases o
   |some d=>
    cases s:d.zero with
    |none=>rw[hi] at o;simp[s] at o
    |some k=>
     rw[hi] at o;simp[CR,s] at o;let⟨c,G⟩:=iZ (γ:=γ) o;have l:((parts.map λ(i,x)=>(i,O x)).toList.map (·.2))=(parts.toList.map (·.2)).map O:=AF;rw[Zs] at q;split at q
     .rename_i L p;let⟨m,j,g⟩:=Yb L.toList q;let⟨r,E,D,C⟩:=bL (place:=λi=>m.toArray[i]?) (parts:=(parts.map λ(i,x)=>(i,O x)).toList) y J
       (by have:=Re p (λi f n h1 K=>zv (g i f n (zv h1) K)) H;rw[<-this];simp) (by rwa[l]) c G
      exact⟨.agg r,run_build w t _ _ (by simp only[Program.built,hi,p,s,j];exact E),r,rfl,D,C⟩
     .rename_i len e p;cases B:P.info? e with
      |none=>simp[Ce,B] at q
      |some b=>
       let⟨r,E,D,C⟩:=bL (place:=λi=>zz (i*b.size,b.size)) (parts:=(parts.map λ(i,x)=>(i,O x)).toList) y J
        (by have:=R4 p (n:=b.size) (by simp[Ce,B]) H;rw[<-this];simp) (by rwa[l]) c G
       exact⟨.agg r,run_build w t _ _ (by simp only[Program.built,hi,p,s,B];exact E),r,rfl,D,C⟩
     .cases q
 .cases h
end
def Pw.still:Pw->Bool
 | .append _ _| .Df _| .FT _| .s2b| .aQ=>zr
 |_=>zp
section
variable{o:YX}{dst:Option Nat}{x:Option (List Ad)}
def II{r:FA}(h:Xh o dst x=zz r):∃args,x=zz args/\r= .mem o args dst:=by unfold Xh at h;grind
def M8{p:Pw}{args:List Ad}{d:Option Nat}{BD:Bool}{b:Option (Nat×Ad)}:¬Xh o dst x=zz (.op p args d BD b):=λh=>by let⟨_,_,e⟩:=II h;cases e
end
def EA{p:Pw}{a:Option Nat}{x:Option (List Ad)}{r:FA}(h:Xg p a x=zz r):∃args,x=zz args/\r= .op p args a zr zx:=by
 cases x with
 |none=>cases h
 |some args=>cases h;exact⟨args,rfl,rfl⟩
section
variable{C:Hw}{γ0 γ:Gh}{w0 w:World}{Z:Nat->Nat}{U:B5}{h:Ak}{a:Act}{fid:FuncId}{ops:List Oper}
def Jv(P:Program)(γ:Gh)(a:Act)(o:Oper)(w:World)(p:Pw)(args:List Ad):Prop:=
 ∀u,AB p args=zz u->∃v,(execOp a.eval o).run P w= y5 (.value v) w/\B3 γ u v
def NY{P:Program}{s:Sem Value}{v:Value}(b:s.run P w= y5 v w):(do pure (y7 (<-s)):Sem Next).run P w= y5 (.value v) w:=by simp[b]
def jc{o:Oper}{c x y:Operand}(l:o.op= .pick c x y)(k:Dp C γ0 w0 γ Z U h a w){args:List Ad}(m:BI C U [c,x,y]=zz args):Jv C.P γ a o w .pick args:=by
 intro u j;simp[AB] at j;split at j;next b p q=>cases j;let⟨_,_,_,e,h1,n,d⟩:=(Ez k m).Ya;simp only[Bn,C1,FU] at e;let⟨i,g,f,_⟩:=e;rw[<-i] at h1;rw[<-g] at n;rw[<-f] at d;refine⟨if b then a.eval x else a.eval y,?_,by cases b<;>simpa⟩;simp[execOp,l,Vv h1,asBool]
 .cases j
def R_{o:Oper}{d:BinOp}{t:TypeId}{x y:Operand}{p:Pw}(i:S9 C.P d t=zz p)(j:execOp a.eval o=(do pure (y7 (<-(do eqGuard d t x y (a.eval x) (a.eval y);binOp d t (a.eval x) (a.eval y):Sem Value)))))
  (f:Dp C γ0 w0 γ Z U h a w) {args:List Ad} (k:BI C U [x,y]=zz args):Jv C.P γ a o w p args:=by
 intro u e;obtain⟨v,c,b⟩:=xL i x y (Ez f k) e;exact⟨v,by rw[j];exact NY c,b⟩
section
variable(hr:Dp C γ0 w0 γ Z U h a w)
def Ib{x:Operand}{args:List Ad}(c:BI C U [x]=zz args):∃u,args=[u]/\B3 γ u (a.eval x):=by
 have h1:=Ez hr c;cases args with
 |nil=>cases h1
 |cons u us=>
  let⟨_,_,e,d,b⟩:=h1.Ob;cases e;cases us with
  |nil=>exact⟨u,rfl,d⟩
  |cons _ _=>let⟨_,_,e,_⟩:=b.Ob;cases e
def F8{x y:Operand}{args:List Ad}(h:BI C U [x,y]=zz args):∃u v,args=[u,v]/\B3 γ u (a.eval x)/\B3 γ v (a.eval y):=by
 have h1:=Ez hr h;cases args with
 |nil=>cases h1
 |cons u us=>
  let⟨_,_,e,i,b⟩:=h1.Ob;cases e;cases us with
  |nil=>cases b
  |cons v f=>
   let⟨_,_,e,d,c⟩:=b.Ob;cases e;cases f with
   |nil=>exact⟨u,v,rfl,i,d⟩
   |cons _ _=>let⟨_,_,e,_⟩:=c.Ob;cases e
end
section
variable{o:Oper}
def Ō{d:UnOp}{x:Operand}(he:execOp a.eval o=(do pure (y7 (<-Op.unary d (a.eval x)))))
  (f:Dp C γ0 w0 γ Z U h a w) {args:List Ad} (i:BI C U [x]=zz args):Jv C.P γ a o w (.un d) args:=by
 intro u e;obtain⟨v,rfl,h1⟩:=Ib f i;let⟨r,c,b⟩:=aIq (P:=C.P) (w:=w) h1 e;simp_all
def jd{b c:TypeId}{k l:IntKind}{x:Operand}(i:C.P.underlying b=zz (.int l))(m:C.P.underlying c=zz (.int k))(f:execOp a.eval o=(do pure (y7 (<-convert b c (a.eval x)))))
  (j:Dp C γ0 w0 γ Z U h a w) {args:List Ad} (n:BI C U [x]=zz args):Jv C.P γ a o w (.conv k) args:=by
 intro u d;obtain⟨v,rfl,h1⟩:=Ib j n;simp[AB] at d;split at d;next e=>cases e;cases d;rw[Fl h1] at f;exact⟨_,by rw[f];exact NY (nJ i m),rfl⟩
 .cases d
def S_{b c:TypeId}{l:IntKind}{x:Operand}(i:C.P.underlying b=zz (.int l))(k:C.P.underlying c=zz .string)(f:execOp a.eval o=(do pure (y7 (<-convert b c (a.eval x)))))
  (j:Dp C γ0 w0 γ Z U h a w) {args:List Ad} (m:BI C U [x]=zz args):Jv C.P γ a o w .i2s args:=by
 intro u d;obtain⟨v,rfl,h1⟩:=Ib j m;simp[AB] at d;split at d;next e=>cases e;cases d;rw[Fl h1] at f;exact⟨_,by rw[f];exact NY (nK i k),rfl⟩
 .cases d
def xN{t:TypeId}{x:Operand}{f off:Nat}{b:Option Nat}(k:JR C.P t f=zz (off,b))(he:execOp a.eval o=(do pure (y7 (<-Instr.field t (a.eval x) f))))
  (j:Dp C γ0 w0 γ Z U h a w) {args:List Ad} (l:BI C U [x]=zz args):Jv C.P γ a o w (.part off b) args:=by
 intro u i;obtain⟨v,rfl,h1⟩:=Ib j l;simp[AB] at i;split at i;next e=>cases e;let⟨r,d,c⟩:=O_ (w:=w) k h1 i;simp_all
 .cases i
def Y3{t:TypeId}{x:Operand}{f off:Nat}{b:Option Nat}(j:JR C.P t f=zz (off,b))(he:execOp a.eval o=(do pure (y7 (<-Instr.fieldAt t (a.eval x) f))))
  (i:Dp C γ0 w0 γ Z U h a w) {args:List Ad} (k:BI C U [x]=zz args):Jv C.P γ a o w (.Mo off) args:=by
 intro u e;obtain⟨v,rfl,h1⟩:=Ib i k;let⟨r,d,c⟩:=xM (w:=w) j h1 e;simp_all
def T_{x:Operand}{i:Nat}(he:execOp a.eval o=(do pure (y7 (<-Instr.extract (a.eval x) i))))
  (f:Dp C γ0 w0 γ Z U h a w) {args:List Ad} (j:BI C U [x]=zz args):Jv C.P γ a o w (.ext i) args:=by
 intro u d;obtain⟨v,rfl,h1⟩:=Ib f j;simp[AB] at d;split at d;next e=>cases e;let⟨r,c,b⟩:=aC1 (P:=C.P) (w:=w) h1 d;simp_all
 .cases d
def Y4{t:TypeId}{x y:Operand}(j:C.P.underlying t=zz .string)(f:execOp a.eval o=(do pure (y7 (<-x4 t (a.eval x) (a.eval y)))))
  (l:Dp C γ0 w0 γ Z U h a w) {args:List Ad} (m:BI C U [x,y]=zz args):Jv C.P γ a o w .iU args:=by
 intro u c;obtain⟨p,q,rfl,h1,n⟩:=F8 l m;simp[AB] at c;split at c
 .rename_i e;cases e;split at c
  .rename_i s k i r;cases d:s[i.toNat]? with
   |none=>rw[d] at c;cases c
   |some b=>rw[d] at c;cases c;rw[Qw h1,Fl n] at f;exact⟨_,by rw[f];exact NY (iY j r d),rfl⟩
  .cases c
 .cases c
def Y5{t e:TypeId}{len n:Nat}{b:Option Nat}{x y:Operand}(m:C.P.underlying t=zz (.array len e))(v:Ce C.P e=zz n)(D:Gm C.P e=zz b)(z:execOp a.eval o=(do pure (y7 (<-x4 t (a.eval x) (a.eval y)))))
  (s:Dp C γ0 w0 γ Z U h a w) {args:List Ad} (A:BI C U [x,y]=zz args):Jv C.P γ a o w (.aIf len n b) args:=by
 intro u f;obtain⟨p,q,rfl,h1,B⟩:=F8 s A;simp[AB] at f;split at f
 .rename_i e;cases e;rename_i cs k i;cases l:N6 i len with
  |none=>rw[l] at f;cases f
  |some j=>rw[l] at f;rw[Fl B] at z;let⟨r,d,c⟩:=iX (w:=w) (k:=k) m v D h1 l f;simp_all
 .cases f
def bN{t e:TypeId}{n:Nat}{x y:Operand}(f:C.P.underlying t=zz (.slice e))(l:Ce C.P e=zz n)(m:execOp a.eval o=(do pure (y7 (<-wm t (a.eval x) (a.eval y)))))
  (j:Dp C γ0 w0 γ Z U h a w) {args:List Ad} (s:BI C U [x,y]=zz args):Jv C.P γ a o w (.EM n) args:=by
 intro u d;obtain⟨p,q,rfl,h1,v⟩:=F8 j s;simp[AB] at d;split at d;next e=>cases e;rename_i k i;rw[Fl v] at m;let⟨r,c,b⟩:=i_ (w:=w) (k:=k) f l h1 d;simp_all
 .cases d
def i5{t e:TypeId}{len n:Nat}{x y:Operand}(l:C.P.underlying t=zz (.array len e))(s:Ce C.P e=zz n)(v:execOp a.eval o=(do pure (y7 (<-wm t (a.eval x) (a.eval y)))))
  (m:Dp C γ0 w0 γ Z U h a w) {args:List Ad} (z:BI C U [x,y]=zz args):Jv C.P γ a o w (.X7 len n) args:=by
 intro u d;obtain⟨p,q,rfl,h1,A⟩:=F8 m z;simp[AB] at d;split at d
 .rename_i e;cases e;rename_i k i;cases f:N6 i len with
  |none=>rw[f] at d;cases d
  |some j=>rw[f] at d;rw[Fl A] at v;let⟨r,c,b⟩:=P_ (w:=w) (k:=k) l s h1 f d;simp_all
 .cases d
def Yc{t:TypeId}{x:Operand}{lo hi:Option Operand}{isStr:Bool}{size:Nat}(i:if isStr=zp then C.P.underlying t=zz .string else∃e,C.P.underlying t=zz (.slice e)/\Ce C.P e=zz size)
  (he:execOp a.eval o=(do pure (y7 (<-Instr.sliceAt t (a.eval x) (lo.map a.eval) (hi.map a.eval) zx))))
  (j:Dp C γ0 w0 γ Z U h a w) {args:List Ad} (k:BI C U (x::(lo.toList++hi.toList))=zz args):Jv C.P γ a o w (.LK size isStr lo.isSome hi.isSome) args:=by
 intro u f;have h1:=Ez j k;cases args with
 |nil=>cases h1
 |cons s bp=>let⟨_,_,e,l,b⟩:=h1.Ob;cases e;simp[AB] at f;obtain⟨r,d,c⟩:=aC2 (w:=w) (lo:=lo.map a.eval) (hi:=hi.map a.eval) i l (by cases lo<;>cases hi<;>simpa using b) (zv f);simp_all
def xO{t:TypeId}{parts:Array (Nat×Operand)}{z:Ad}{d:List (Nat×Nat)}(e:Ip C.P t=zz z)(k:LM C.P t parts.toList=zz d)(l:Zs C.P t=zp)
  (he:execOp a.eval o=(do pure (y7 (<-Instr.build t (parts.map λ(i,x)=>(i,a.eval x))))))
  (j:Dp C γ0 w0 γ Z U h a w) {args:List Ad} (m:BI C U (parts.toList.map (·.2))=zz args):Jv C.P γ a o w (.Fc z.cells d) args:=by
 intro u f;let⟨r,c,b⟩:=Q_ (w:=w) e k l (Ez j m) f;simp_all
def nN{x:Operand}(e:o.op= .nilCheck x)(f:Dp C γ0 w0 γ Z U h a w){args:List Ad}(m:BI C U [x]=zz args):Jv C.P γ a o w .K8 args:=by
 intro u c;obtain⟨v,rfl,h1⟩:=Ib f m;simp[AB,xA] at c;split at c;next p=>cases c;let⟨i,k⟩:=p;let⟨b,l,d⟩:=h1;exact⟨_,by simp only[execOp,e,d];rfl,b,l,rfl⟩
 .cases c;let⟨b,k,d,j⟩:=h1;exact⟨_,by simp only[execOp,e,d];rfl,b,k,rfl,j⟩
 .cases c;let⟨n,cs,d,p,q⟩:=h1;exact⟨_,by simp only[execOp,e,d];rfl,n,cs,rfl,p,q⟩
 .cases c
end
def Ph:∀{a:List Operand} {us:List Ad},BI C U a=zz us->zy us=zy a
 |[],us,h=>by cases h;rfl
 |x::a,us,h=>by
  rw[BI] at h;split at h;next u Ei h1 b=>cases h;simp[Ph b]
  .cases h
def Qz{P:Program}{o:Oper}{c:Call}{b:Builtin}{s:Sem Value}(i:o.op= .call c)(j:c.callee= .builtin b)(h:builtin b c.argTypes o.type (c.args.map λ| .const _=>zp|_=>zr) (c.args.map a.eval)=(do pure (y7 (<-s)))){v:Value}
  (hv:s.run P w= y5 v w):(execOp a.eval o).run P w= y5 (.value v) w:=by
 have:execOp a.eval o=(do pure (y7 (<-s))):=by rw[<-h];simp[execOp,i,resolve,j];rfl
 simp_all
def kK{o:Oper}{c:Call}{t:TypeId}{isStr:Bool}(m:o.op= .call c)(n:c.callee= .builtin .len)(p:c.argTypes[0]?=zz t)(k:if isStr=zp then C.P.underlying t=zz .string else∃e,C.P.underlying t=zz (.slice e))
  (l:Dp C γ0 w0 γ Z U h a w) {args:List Ad} (i:BI C U c.args.toList=zz args):Jv C.P γ a o w (.len isStr) args:=by
 intro u f;simp[AB] at f;split at f
 .rename_i s;obtain⟨x,j⟩:∃x,c.args.toList=[x]:=aLy.1 (Ph i).symm;rw[j] at i;let⟨_,e,h1⟩:=Ib l i;cases e;obtain⟨r,d,b⟩:=aC0 k p h1 f;have e:c.args.map a.eval=#[a.eval x]:=by apply IV;simp[j]
  exact⟨r,Qz m n (by rw[e];rfl) d,b⟩
 .cases f
def Vw{o:Oper}{c:Call}{isMax:Bool}(m:o.op= .call c)(n:c.callee= .builtin (if isMax then .max else .min))(s:Dp C γ0 w0 γ Z U h a w){args:List Ad}(i:BI C U c.args.toList=zz args):Jv C.P γ a o w (.Nr isMax) args:=by
 intro u b;simp[AB] at b;split at b
 .rename_i k p l q;split at b
  .rename_i t;subst t;cases b;have d:=Ph i;obtain⟨x,y,j⟩:∃x y,c.args.toList=[x,y]:=by
    cases f:c.args.toList with
    |nil=>rw[f] at d;simp at d
    |cons x r=>cases r with
     |nil=>rw[f] at d;simp at d
     |cons y ys=>cases ys with
      |nil=>exact⟨x,y,rfl⟩
      |cons _ _=>rw[f] at d;simp at d
   rw[j] at i;let⟨_,_,e,h1,v⟩:=F8 s i;cases e;have e:c.args.map a.eval=#[zj k p,zj k q]:=by apply IV;simp[j,Fl h1,Fl v]
   cases isMax with
   |true=>exact⟨_,Qz m n (by rw[e];rfl) (by simp[Builtin.max_,Builtin.max2]),rfl⟩
   |false=>exact⟨_,Qz m n (by rw[e];rfl) (by simp[Builtin.min_,Builtin.min2]),rfl⟩
  .cases b
 .cases b
end
section
variable{C:Hw}{γ0 γ:Gh}{w0 w:World}{Z:Nat->Nat}{U:B5}{h:Ak}{a:Act}{fid:FuncId}{ops:List Oper}
def OS{x:Operand}{d:Nat}{a:Bool}{r:FA}(h:MA C U x d a=zz r):∃ws,r= .pure ws:=by
 unfold MA at h;split at h;.grind
 .grind
 .split at h;.grind
  .cases b:JS _ with
   |none=>rw[b] at h;cases h
   |some s=>rw[b] at h;cases h;exact⟨_,rfl⟩
 .cases b:JS _ with
  |none=>rw[b] at h;cases h
  |some s=>rw[b] at h;cases h;exact⟨_,rfl⟩
 .cases h
def kL{t:TypeId}{v:Ad}{d:Nat}{p:Pw}{args:List Ad}{a:Option Nat}{BD:Bool}{b:Option (Nat×Ad)}:X8 C fid t v d≠zz (.op p args a BD b):=by rw[X8];grind
def je{t:TypeId}{x:Operand}{d:Nat}{a:Bool}{p:Pw}{args:List Ad}{c:Option Nat}{BD:Bool}{b:Option (Nat×Ad)}:Nt C U t x d a≠zz (.op p args c BD b):=by rw[Nt];grind
def xP{t:TypeId}{x y:Operand}{p:Pw}{args:List Ad}{a:Option Nat}{BD:Bool}{b:Option (Nat×Ad)}:K4 C U t x y≠zz (.op p args a BD b):=by rw[K4];grind
def U_{o:Oper}{p:Pw}{args:List Ad}{G:Option Nat}{BD:Bool}{j:Option (Nat×Ad)}(m:HB C fid ops U o=zz (.op p args G BD j))(E:p.still=zp)(u:Dp C γ0 w0 γ Z U h a w):
  Jv C.P γ a o w p args/\G=o.dst/\BD=zr/\j=zx:=by
 unfold HB at m
 split at m
 .split at m
  .obtain⟨ws,e⟩:=OS m;cases e
  .cases m
 .split at m
  .obtain⟨ws,e⟩:=OS m;cases e
  .cases m
 .rename_i c x y r
  split at m
  .obtain⟨ws,e⟩:=OS m;cases e
  .obtain⟨ws,e⟩:=OS m;cases e
  .obtain⟨v,g,b⟩:=EA m
   cases b
   exact⟨jc r u g,rfl,rfl,rfl⟩
 .split at m
  .split at m
   .split at m<;>cases m
   .exact absurd m kL
  .cases m
 .split at m
  .exact absurd m kL
  .cases m
 .rename_i t parts r
  split at m
  .rename_i z ps M N
   split at m
   .rename_i O
    obtain⟨v,g,b⟩:=EA m
    cases b
    exact⟨xO M N O (by simp[execOp,r]) u g,rfl,rfl,rfl⟩
   .cases m
  .cases m
 .split at m
  .split at m
   .split at m
    .split at m
     .cases m;cases E
     .cases s:BI C U _ with
      |none=>rw[s] at m;cases m
      |some q=>rw[s] at m;cases m;cases E
    .cases m
   .cases m
  .cases m
 .split at m
  .exact absurd m je
  .cases m
 .split at m
  .exact absurd m xP
  .cases m
 .rename_i x r
  split at m
  .cases m
  .cases m
  .obtain⟨v,g,b⟩:=EA m
   cases b
   exact⟨nN r u g,rfl,rfl,rfl⟩
 .rename_i L t x y k r
  split at m
  .rename_i q s
   obtain⟨v,g,b⟩:=EA m
   cases b
   exact⟨R_ s (by simp[execOp,r]) u g,rfl,rfl,rfl⟩
  .cases m
 .rename_i L t x r
  obtain⟨v,g,b⟩:=EA m
  cases b
  exact⟨Ō (by simp[execOp,r]) u g,rfl,rfl,rfl⟩
 .rename_i src aR8 x r
  split at m
  .cases s:FV C U x with
   |none=>rw[s] at m;cases m
   |some q=>rw[s] at m;cases m
  .split at m
   .cases s:FV C U x with
    |none=>rw[s] at m;cases m
    |some q=>rw[s] at m;cases m
   .obtain⟨v,g,b⟩:=EA m
    cases b;cases E
  .rename_i q OT Va s
   obtain⟨v,g,b⟩:=EA m
   cases b
   refine⟨?_,rfl,rfl,rfl⟩
   unfold aZ at s
   split at s
   .rename_i H F
    cases s
    exact jd H F (by simp[execOp,r]) u g
   .rename_i H F
    cases s
    exact S_ H F (by simp[execOp,r]) u g
   .cases s
   .split at s
    .cases s;cases E
    .cases s
   .split at s
    .cases s;cases E
    .cases s
   .cases s
  .cases m
 .split at m
  .cases m
  .cases m
 .cases m
 .split at m
  .split at m<;>cases m
  .cases m
 .split at m
  .split at m<;>cases m
  .cases m
 .split at m
  .split at m<;>cases m
  .cases m
 .split at m
  .split at m<;>cases m
  .cases m
 .split at m
  .split at m
   .exact absurd m M8
   .cases m
  .cases m
 .split at m
  .cases m
  .exact absurd m M8
  .cases m
 .split at m
  .split at m<;>first|exact absurd m M8|cases m
  .cases m
 .split at m
  .exact absurd m M8
  .cases m
 .rename_i t x lo hi r
  split at m
  .rename_i A
   obtain⟨v,g,b⟩:=EA m
   cases b
   exact⟨Yc (isStr:=true) A (by simp[execOp,r]) u g,rfl,rfl,rfl⟩
  .rename_i e A
   split at m
   .rename_i n D
    split at m
    .exact absurd m M8
    .obtain⟨v,g,b⟩:=EA m
     cases b
     exact⟨Yc (isStr:=false) ⟨e,A,D⟩ (by simp[execOp,r]) u g,rfl,rfl,rfl⟩
   .cases m
  .cases m
 .rename_i t x f r
  split at m
  .rename_i off l d J F
   split at m
   .cases m
   .cases m
   .obtain⟨v,g,b⟩:=EA m
    cases b
    exact⟨Y3 J (by simp[execOp,r]) u g,F.symm,rfl,rfl⟩
  .cases m
 .rename_i t x f r
  split at m
  .rename_i off l J
   obtain⟨v,g,b⟩:=EA m
   cases b
   exact⟨xN J (by simp[execOp,r]) u g,rfl,rfl,rfl⟩
  .cases m
 .rename_i t x i r
  split at m
  .rename_i e A
   split at m
   .rename_i n D
    obtain⟨v,g,b⟩:=EA m
    cases b
    exact⟨bN A D (by simp[execOp,r]) u g,rfl,rfl,rfl⟩
   .cases m
  .rename_i len e A
   split at m
   .rename_i n D
    split at m
    .cases m
    .obtain⟨v,g,b⟩:=EA m
     cases b
     exact⟨i5 A D (by simp[execOp,r]) u g,rfl,rfl,rfl⟩
   .cases m
  .cases m
 .rename_i t x i r
  split at m
  .rename_i A
   obtain⟨v,g,b⟩:=EA m
   cases b
   exact⟨Y4 A (by simp[execOp,r]) u g,rfl,rfl,rfl⟩
  .rename_i len e A
   split at m
   .rename_i n l D Q
    obtain⟨v,g,b⟩:=EA m
    cases b
    exact⟨Y5 A D Q (by simp[execOp,r]) u g,rfl,rfl,rfl⟩
   .cases m
  .cases m
 .rename_i x i r
  obtain⟨v,g,b⟩:=EA m
  cases b
  exact⟨T_ (by simp[execOp,r]) u g,rfl,rfl,rfl⟩
 .rename_i c r
  unfold Un at m
  split at m
  .rename_i B
   split at m
   .rename_i t K
    split at m
    .rename_i A
     obtain⟨v,g,b⟩:=EA m
     cases b
     exact⟨kK (isStr:=true) r B K A u g,rfl,rfl,rfl⟩
    .rename_i e A
     obtain⟨v,g,b⟩:=EA m
     cases b
     exact⟨kK (isStr:=false) r B K ⟨e,A⟩ u g,rfl,rfl,rfl⟩
    .cases m
   .cases m
  .split at m
   .split at m
    all_goals first
     |(cases m;done)
     | (split at m
        . split at m
          . split at m
            . split at m
              . split at m
                . cases m
                . split at m
                  . cases m
                  . cases m; cases E
              . split at m <;> cases m
            . cases m
          . cases m
        . cases m)
   .cases m
  .split at m
   .split at m
    all_goals first
     |(cases m;done)
     | (split at m
        . exact absurd m M8
        . cases m)
   .cases m
  .split at m
   .split at m
    .split at m
     .exact absurd m M8
     .cases m
    .cases m
   .cases m
  .rename_i B
   split at m
   .obtain⟨v,g,b⟩:=EA m
    cases b
    exact⟨Vw (isMax:=true) r B u g,rfl,rfl,rfl⟩
   .cases m
  .rename_i B
   split at m
   .obtain⟨v,g,b⟩:=EA m
    cases b
    exact⟨Vw (isMax:=false) r B u g,rfl,rfl,rfl⟩
   .cases m
  .split at m
   .split at m
    .split at m
     .exact absurd m M8
     .cases m
    .cases m
   split at m
   .cases s:BI C U c.args.toList with
    |none=>rw[s] at m;cases m
    |some q=>
     rw[s] at m
     simp only[Cb,BN] at m
     split at m<;>cases m
   .cases m
  .split at m<;>cases m
  .cases m
 .cases m
end
end Go.Am
end
open Go.Instr renaming loadAt→ye,sureAddr→xk
open Go.Am.Gh renaming DV→yz
open Or renaming inl→yk,inr→xp
section
namespace Go.Am
open Go
def ğ(a:Nat->Nat)(d b:Nat):Nat->Nat:=λs=>if s=d then b else a s
def Mr.ic:Mr->Option Nat
 | .Oa _=>zx
 | .loc s=>zz s
 | .tail s _ _=>zz s
structure Tc(g:Nat)(γ:Gh)(w:World)(γ':Gh)(w':World):Prop where
 le:γ.le γ'
 Qt:∀b x,b≠g->γ.BD b=zz x->x.Ń=false->γ'.BD b=zz x/\w'.heap[b]?=w.heap[b]?
section
variable{C:Hw}{D F E:Gh}{G w w':World}{H:Nat->Nat}{U:B5}{h:Ak}{a:Act}{fid:FuncId}{ops:List Oper}
def B5.Vx(U:B5)(a:List Nat)(s:Nat):(U.drop a).at s=match U.at s with| .Ge t o=>if a.contains t then .undef else .Ge t o|x=>x:=by
 cases a with
 |nil=>simp[B5.drop,List.contains_nil];cases U.at s<;>simp
 |cons d a=>
  simp[B5.drop,B5.at,yj,Cp];cases hg:U[s]? with
  |none=>rfl
  |some x=>cases x<;>rfl
def B5.length_drop(U:B5)(a:List Nat):(U.drop a).length=zy U:=by cases a<;>simp[B5.drop]
def Nu.aR9{B s d b:Nat}{x:Fb}{v:Value}(a:Nu F H B w s x v)(f:∀o,x≠ .Ge d o)(c:s≠d):Nu F (ğ H d b) B w s x v:=by
 cases x with
 |box ver cs ow=>simpa only[Nu,ğ,Aa c] using a
 |Ge t o=>have:t≠d:=λe=>f o (by rw[e]);simpa only[Nu,ğ,Aa this] using a
 |_=>exact a
section
variable{g B s:Nat}{d:Mr}(hg:F.BD g=some d)(k:Tc g F w E w')(hne:d.ic≠some s)
def Kk.keptBut{c:Option Nat}{v:Value}{u:Ad}(a:Kk F B w s c v u):Kk E B w' s c v u:=by
 obtain a|⟨d,n,h,o,e,z,AH,t,r,b,m,l,j⟩:=a
 .exact yk a
 .have q:d≠g:=λp=>by subst p;rw[hg] at b;cases b;exact hne rfl
  let⟨i,f⟩:=k.Qt d _ q b rfl;exact xp ⟨d,n,h,o,e,z,AH,t,r,i,m,by rwa[f],j⟩
def Nu.keptBut{x:Fb}{v:Value}(a:Nu F H B w s x v):Nu E H B w' s x v:=by
 cases x with
 |undef=>trivial
 |skip=>exact a
 |val u=>exact B3.mono k.le u v a
 |RO b=>exact a
 |BD u=>exact⟨B3.mono k.le u v a.1,a.2.keptBut hg k hne⟩
 |box ver G ow=>
  let⟨r,c,q,z,e,p,n,m,l⟩:=a;have D:H s≠g:=λC=>by rw[C,hg] at c;cases c;exact hne rfl
  let⟨y,t⟩:=k.Qt _ _ D c rfl;exact⟨r,y,q,z,e,by rwa[t],Bt.mono k.le G _ n,m,λo A=>let⟨u,v,j,i,f⟩:=l o A;⟨u,v,j,i,f.keptBut hg k hne⟩⟩
 |Ge s' o=>exact a
end
def Dp.ō(x:Dp C D G F H U h a w)(d:Nat)(p:Array Value)(e:TypeId)(j:List Ad)(v:List Nat)(z:Bt F j p.toList)(M:∀u∈p.toList,u.oneCell'=true)
  (q:∀o∈v,j[o]?=zz .slnil):
  ∃E b,Dp C D G E b ((U.drop [d]).set d (yi 0 j v)) h (a.put (zz d) (zc (zz ⟨w.heap.size,0,zx⟩))) (w.alloc (.cells p e)):=by
 let⟨L,A⟩:=RV x.ED p e (0,0) 0 (zz (.loc d)) (λ_ _ m=>absurd m (ě _)) (xp (xp ⟨rfl,AF⟩));have n:=(x.drop [d]).Kz L A;refine⟨_,ğ H d w.heap.size,n.ED,⟨by simp[Act.put,n.fr.size],λs=>?_⟩,n.Ex,n.defers,n.IF⟩;by_cases r:s=d
 .subst r;by_cases y:s<(U.drop [s]).length
  .have B:s<a.tmps.size:=by rwa[<-n.fr.size]
   rw[B5.Gs y];have g:(a.put (zz s) (zc (zz ⟨w.heap.size,0,zx⟩))).tmps.getD s undef= zc (zz ⟨w.heap.size,0,zx⟩):=by simp[Act.put,Array.getD,B]
   rw[g];refine⟨by simp[ğ],by simp[ğ,yz],?_,p,e,?_,Bt.mono A.le _ _ z,M,λo m=>?_⟩;.simp only[ğ,BV];exact x.Ex.size
   .simp only[ğ,BV];exact heap_alloc_new w _
   .let⟨u,c,i⟩:=z.get (q o m);exact⟨u,.slnil,zv c,q o m,yk (yk rfl)⟩
  .have:B5.at ((U.drop [s]).set s (yi 0 j v)) s= .undef:=by simp[B5.at,yj];rw[Lp (zv y)];rfl
   rw[this];trivial
 .rw[B5.Ht (λe=>r e.symm)];have f:(a.put (zz d) (zc (zz ⟨w.heap.size,0,zx⟩))).tmps.getD s undef=a.tmps.getD s undef:=by simp[Act.put,LF,gy (λe=>r e.symm)]
  rw[f];refine (n.fr.JC s).aR9 (λo m=>?_) r;rw[B5.Vx] at m;cases K:U.at s with
  |Ge t o'=>grind
  |_=>rw[K] at m;cases m
def Jp{P:Program}{t:TypeId}{z:Ad}(b:Ip P t=zz z):∃v,NL v=zz z/\∀w,(zeroValue t).run P w= .ok v w:=by
 rw[Ip] at b;cases d:P.info? t with
 |none=>rw[d] at b;cases b
 |some i=>
  rw[d] at b;cases c:i.zero with
  |none=>simp[c] at b
  |some v=>simp[CR,c] at b;exact⟨v,b,λw=>by simp[zeroValue,typeInfo,d,c]⟩
def jf{a:List Ad}{o:Nat}(h:o∈aY a):a[o]?=zz .slnil:=by simp[aY,GN,List.mem_range] at h;grind
def He(C:Hw)(D:Gh)(G:World)(o:Oper)(a:Act)(w:World)(c:B5)(f:Ak):Prop:=
 ∃E b e,(∃v,(execOp a.eval o).run C.P w= .ok (.value v) e/\Dp C D G E b c f (a.put o.dst v) e)\/((execOp a.eval o).run C.P w= .ok .skip e/\Dp C D G E b c f (a.put o.dst undef) e)
section
variable{o:Oper}{c:B5}{h':Ak}{b:Nat->Nat}
def He.value{v:Value}(e:(execOp a.eval o).run C.P w= .ok (.value v) w')(d:Dp C D G E b c h' (a.put o.dst v) w'):He C D G o a w c h':=⟨E,b,w',yk ⟨v,e,d⟩⟩
def He.skip(f:(execOp a.eval o).run C.P w= .ok .skip w')(e:Dp C D G E b c h' (a.put o.dst undef) w'):He C D G o a w c h':=⟨E,b,w',xp ⟨f,e⟩⟩
end
def bO{o:Oper}{t:TypeId}{d:Nat}{z:Ad}(k:o.op= .alloc t)(m:o.dst=zz d)(f:Ip C.P t=zz z)(l:z.cells≠[])(j:Dp C D G F H U h a w):
  He C D G o a w ((U.drop [d]).set d (yi 0 z.cells (aY z.cells))) h:=by
 let⟨v,i,n⟩:=Jp f;obtain⟨e,c⟩:=IH (Gr i) (Du.2 l);let⟨E,b,Hi⟩:=j.ō d v.cells t z.cells (aY z.cells) e c (λo=>jf);refine He.value ?_ (by rwa[m]);simp[execOp,k,Instr.alloc,n,newVar,newRow]
def nO{o:Oper}{t:TypeId}{x:Operand}{d n:Nat}{v:Ad}(j:o.op= .box t x)(k:o.dst=zz d)(i:FV C U x=zz v)(hv:zy v.cells=n)(hn:n≠0)(f:Dp C D G F H U h a w):
  He C D G o a w ((U.drop [d]).set d (yi 0 v.cells [])) h:=by
 let⟨e,c⟩:=IH (H5 f i) Ab;let⟨E,b,Hi⟩:=f.ō d (a.eval x).cells t v.cells [] e c AF;refine He.value ?_ (by rwa[k]);simp[execOp,j,Instr.box,newVar,newRow]
def Dp.newObj(i:Dp C D G F H U h a w)(c:Array Value)(e:TypeId)(d:Nat×Nat)(b:List Ad)(k:Xm d c.size)(m:Bt F b (c.toList.take (zy b)))(n:∀u∈c.toList.take (zy b),u.oneCell'=true):
  ∃E,F.le E/\E.mu (zy h)=zz w.heap.size/\Dp C D G E H U (h++[zo b]) a (w.alloc (.cells c e d))/\E.sz w.heap.size=zz c.size:=by
 let⟨l,j⟩:=Ia i.ED (.cells c e d) (zo b) (zz c.size) (yk ⟨b,c,e,d,rfl,rfl,k,m,n,rfl⟩);exact⟨_,j.le,by simp[Gh.B6],i.Kz l j,by simp[Gh.B6]⟩
def bP{o:Oper}{t:TypeId}{z:Ad}{d:Option Nat}(l:o.op= .alloc t)(n:o.dst=d)(f:Ip C.P t=zz z)(hn:zy z.cells≠0)(k:Dp C D G F H U h a w):
  He C D G o a w (U.put d (z0 (.ptr (zz (zy h,0))))) (h++[zo z.cells]):=by
 let⟨v,i,q⟩:=Jp f;let⟨b,c⟩:=IH (γ:=F) (Gr i) Ab;let⟨E,E7,m,p,_⟩:=k.newObj v.cells t (0,0) z.cells (yk rfl) (by rwa[AL (by rw[b.length];exact Af _)]) (λu j=>c u (BQ j));refine He.value ?_ (by rw[n];exact p.put λs _=>⟨_,m,rfl⟩);simp[execOp,l,Instr.alloc,q,newVar,newRow]
def nQ{o:Oper}{t:TypeId}{x:Operand}{d:Option Nat}{v:Ad}(k:o.op= .box t x)(m:o.dst=d)(i:FV C U x=zz v)(hn:zy v.cells≠0)(e:Dp C D G F H U h a w):
  He C D G o a w (U.put d (z0 (.ptr (zz (zy h,0))))) (h++[zo v.cells]):=by
 let⟨b,c⟩:=IH (H5 e i) Ab;let⟨E,E7,l,n,_⟩:=e.newObj (a.eval x).cells t (0,0) v.cells (yk rfl) (by rwa[AL (by rw[b.length];exact Af _)]) (λu j=>c u (BQ j));refine He.value ?_ (by rw[m];exact n.put λs _=>⟨_,l,rfl⟩);simp[execOp,k,Instr.box,newVar,newRow]
section
variable(hr:Dp C D G F H U h a w){x:Operand}
def M9{s o c:Nat}{h:List Ad}{e:List Nat}(b:Hz C U x=zz (.RS s o c h e)):
  U.at s= yi c h e/\a.eval x= zc (zz ⟨H s,o,zx⟩):=by
 unfold Hz at b;split at b;next j HS Iz Rd d=>cases b;have f:=Vs hr s;rw[It d] at f;exact⟨It d,f.1⟩
 .rename_i j o' _ d;split at b;.rename_i l;cases b;let⟨t,m,_⟩:=HD hr d;exact⟨l,m⟩
  .cases b
 .simp_all
 .cases b
def Uv{p:Ad}(b:Hz C U x=zz (.ptr p)):B3 F p (a.eval x):=by
 unfold Hz at b;split at b;.cases b
 .grind
 .rename_i d _ _ e;cases c:d.Jt with
  |none=>rw[c] at b;cases b
  |some u=>rw[c] at b;cases b;let⟨t,f,_⟩:=HD hr e;exact PE f c
 .cases b
end
def JT{t:TypeId}{n:Option Nat}(q:Gm C.P t=zz n){L:List Ad}{p:List Value}{b o:Nat}(E:Bt F L p)(K:∀(j:Nat) (u:Value),p[j]?=zz u->w.cell? ⟨b,o+j,zx⟩=zz u)(Q:∀u∈p,u.oneCell'=true)
  {r:Ad} (s:Gp L 0 n=zz r):∃v,(ye t (zc (zz ⟨b,o,zx⟩))).run C.P w= .ok v w/\B3 F r v:=by
 rw[Gm] at q;have R:∀j,(⟨b,o,zx⟩:Addr).add j=⟨b,o+j,zx⟩:=λj=>by rw[Addr.add];split<;>simp_all
 have y:∀d,C.P.underlying t=zz d->(match d with| .struct _| .array _ _=>true|_=>false)=true->(Ce C.P t).map zz=zz n->
   ∃v,(ye t (zc (zz ⟨b,o,zx⟩))).run C.P w= .ok v w/\B3 F r v:=by
  intro d m hb A;cases z:Ce C.P t with
  |none=>rw[z] at A;cases A
  |some k=>
   rw[z] at A;cases A;simp only[Gp] at s;split at s
   .rename_i hk;cases s;have J:=run_loadCells_list (P:=C.P) w ⟨b,o,zx⟩ (p.take k) (λj v B=>by
     rw[R];refine K j v ?_;rw[Cw] at B;split at B;.exact B
     .cases B)
    have x:(p.take k).length=k:=by simp[E.length];omega
    rw[x] at J;refine⟨.agg (p.take k).toArray,?_,_,rfl,?_,λu G=>Q u (BQ (zv G))⟩
    .have D:(isAgg t).run C.P w= .ok true w:=by rw[isAgg];rw[Sem.run_bind,run_underlying m w];cases d<;>simp_all
     cases H:C.P.info? t with
     |none=>simp[Ce,H] at z
     |some i=>
      have O:i.size=k:=by simpa[Ce,H] using z
      simp[ye,xk,loadVar,D,sizeOf,typeInfo,H,O,J]
    .exact zv (E.take k)
   .cases s
 split at q;next fs m=>exact y _ m rfl q
 next l e m=>exact y _ m rfl q
 .rename_i d OT Va m;cases q;simp[Gp] at s;let⟨u,G,N⟩:=E.get s;refine⟨u,?_,N⟩;have D:(isAgg t).run C.P w= .ok false w:=by rw[isAgg];rw[Sem.run_bind,run_underlying m w];cases d<;>simp_all
  have M:=K 0 u G;simp[BE] at M;simp[ye,xk,loadVar,D,M]
 .cases q
def R5{b:List Ad}{a:Nat}{n:Option Nat}{r:Ad}(h:Gp b a n=zz r):Gp (b.drop a) 0 n=zz r:=by
 cases n with
 |none=>simp only[Gp] at h⊢;rw[CF];exact zv h
 |some n=>simp[Gp] at h⊢;grind
section
variable(hr:Dp C D G F H U h a w)
def Dp.kM{s d:Nat}{f:List Ad}{h:List Nat}(i:U.at s= yi d f h):
  F.BD (H s)=zz (.loc s)/\G.heap.size<=H s/\∃b e,w.heap[H s]?=zz (.cells b e (0,0))/\Bt F f b.toList/\(∀u∈b.toList,u.oneCell'=true)/\
   ∀o∈h,∃u x,b[o]?=zz u/\f[o]?=zz x/\Kk F G.heap.size w s (zz o) u x:=by
 have c:=hr.fr.JC s;rw[i] at c;exact⟨c.2.1,c.2.2.1,c.2.2.2⟩
def MS{t:TypeId}{n:Option Nat}(a:Gm C.P t=zz n){s p off:Nat}{E:List Ad}{G:List Nat}(J:U.at s= yi p E G){r:Ad}(y:Gp E off n=zz r):
  ∃v,(ye t (zc (zz ⟨H s,off,zx⟩))).run C.P w= .ok v w/\B3 F r v/\(n=zx->∀l e,w.heap[H s]?=zz (.cells l e (0,0))->l[off]?=zz v):=by
 let⟨_,_,l,e,A,D,i,_⟩:=hr.kM J;let⟨v,f,g⟩:=JT (w:=w) (b:=H s) (o:=off) a (D.drop off) (λj u B=>by rw[cell_of_row w _ _ l e (0,0) A];rw[CF] at B;exact zv B) (λu m=>i u (BU m)) (R5 y)
 refine⟨v,f,g,λK Ei e' c=>?_⟩;subst K;rw[A] at c;cases c;simp[Gp] at y;let⟨u,m,_⟩:=D.get y;have L:w.cell? ⟨H s,off,zx⟩=zz u:=by rw[cell_of_row w _ _ l e (0,0) A];exact zv m
 have q:∃d,C.P.underlying t=zz d/\(isAgg t).run C.P w= .ok false w:=by
  rw[Gm] at a;split at a;.cases x:Ce C.P t<;>rw[x] at a<;>cases a
  .cases x:Ce C.P t<;>rw[x] at a<;>cases a
  next d OT Va z=>refine⟨d,z,?_⟩;rw[isAgg];rw[Sem.run_bind,run_underlying z w];cases d<;>simp_all
  .cases a
 let⟨d,z,q⟩:=q;have:(ye t (zc (zz ⟨H s,off,zx⟩))).run C.P w= .ok u w:=by simp[ye,xk,loadVar,q,L]
 rw[f] at this;cases this;exact zv m
def Dp.aC4{s J B:Nat}{M:List Ad}{L:List Nat}(Q:U.at s= yi J M L)(ho:B∈L)(q:B∉L.erase B)(O:Nat)(T:Option Nat){u:Value}{v:Ad}(Y:M[B]?=zz v)
  (Z:∀K e,w.heap[H s]?=zz (.cells K e (0,0))->K[B]?=zz u):
  ∃E,F.le E/\Dp C D G E H (U.set s (yi (J+1) M (L.erase B))) h a w/\Kk E G.heap.size w O T u v:=by
 have R:=hr.fr.JC s;rw[Q] at R;let⟨h1,h2,x,K,e,k,t,r,j⟩:=R;let⟨A,v',f,d,c⟩:=j B ho;rw[Y] at d;cases d;rw[Z K e k] at f;cases f;have V:Dp C D G F H (U.set s (yi (J+1) M (L.erase B))) h a w:=hr.xE ⟨h1,h2,x,K,e,k,t,r,λP b=>j P (List.mem_of_mem_erase b)⟩;obtain c|⟨g,n,N,X,y,z,AH,p,o,m,i,l⟩:=c
 .exact⟨F,.refl _,V,yk c⟩
 .refine⟨F.GW g (.tail O T (n*z)),IG _ _ _,V.GW m i (λhn=>by cases hn) (λP b HS Iz Rd hb=>?_),xp ⟨g,n,N,X,y,z,AH,p,o,by simp[Gh.GW],i,l⟩⟩;rw[B5.Gs (B5.RY (by rw[Q];simp))] at hb;grind
end
section
variable{o:Oper}{t:TypeId}{x:Operand}
def i6{d:Nat}{u:Bool}{r:FA}{B:IT->Ak->Option LI}{g:B5}{T:Ak}(ho:o.op= .load t x)(M:o.dst=zz d)(l:Nt C U t x d u=zz r)(hp:∃X,r= .pure X)
  (q:r.PD C B (U.drop r.news) h g T) (p:Dp C D G F H U h a w):He C D G o a w g T:=by
 have O:∀v,(ye t (a.eval x)).run C.P w= .ok v w->(execOp a.eval o).run C.P w= .ok (.value v) w:=λv hv=>by simp[execOp,ho,hv]
 rw[Nt] at l;split at l;.cases l;let⟨_,e⟩:=hp;cases e
 .rename_i s k A y Y K N;let⟨z,J⟩:=M9 p N;split at l
  .rename_i L;have R:y[k]?=zz (y.getD k .nilIface):=by simp[yj,Ap L]
   let⟨v,b,c,i⟩:=MS p K z (r:=y.getD k .nilIface) (off:=k) (by simpa[Gp] using R);rw[<-J] at b;simp only at l;split at l
   .rename_i V;cases l;rw[Qv AF] at q;obtain⟨rfl,rfl⟩:=q;simp[Bs,aMg] at V;let⟨⟨j,f⟩,_⟩:=V;have f:=zv f
    let⟨E,Q,Hi,GQ⟩:=p.aC4 z j f d zx R (i rfl);exact He.value (O v b) (by rw[M];exact Hi.put (d:=zz d) λs' Z=>by cases Z;exact⟨B3.mono Q _ _ c,GQ⟩)
   .cases l;rw[Qv AF] at q;obtain⟨rfl,rfl⟩:=q;exact He.value (O v b) (by rw[M];exact p.put (d:=zz d) λ_ _=>c)
  .cases l
 .rename_i n s k A y Y K N;let⟨z,J⟩:=M9 p N;split at l;.rename_i Q;cases l;rw[Qv AF] at q;obtain⟨rfl,rfl⟩:=q;let⟨v,b,c,_⟩:=MS p K z (r:= .agg ((y.drop k).take n)) (off:=k) (by simp[Gp,Q]);rw[<-J] at b;exact He.value (O v b) (by rw[M];exact p.put (d:=zz d) λ_ _=>c)
  .cases l
 .cases l
def Ŏ{n:Option Nat}{p r:Ad}(O:o.op= .load t x)(J:Gm C.P t=zz n)(N:Hz C U x=zz (.ptr p))(s:A8 h n p=zz r)(y:Dp C D G F H U h a w):
  He C D G o a w (U.put o.dst (z0 r)) h:=by
 have m:=Uv y N;have L:∀v,(ye t (a.eval x)).run C.P w= .ok v w->(execOp a.eval o).run C.P w= .ok (.value v) w:=λv m=>by simp[execOp,O,m]
 unfold A8 at s;split at s
 .rename_i K;let⟨b,k,m,Q⟩:=m;let⟨E,g,d⟩:=Q.values;let⟨v,c,f⟩:=JT J g (λj u q=>(y.ED.JJ _ _ _ (d j u q)).1) (λu A=>by let⟨j,q⟩:=C8 A;exact(y.ED.JJ _ _ _ (d j u q)).2.1) s
  rw[<-m] at c;exact He.value (L v c) (y.put λ_ _=>f)
 .rename_i M z;let⟨b,R,m⟩:=m;split at s
  .rename_i K B;let⟨E,e,T,g,pf,d,i⟩:=y.ED.cells M K B b R;obtain⟨v,c,f⟩:=JT J (d.drop z) (λj u q=>by
    rw[cell_of_row w _ _ E e T g];rw[CF,Cw] at q;split at q;.exact zv q
    .cases q) (λu A=>i u (BU A)) (R5 s)
   rw[<-m] at c;exact He.value (L v c) (y.put λ_ _=>f)
  .cases s
 .cases s
end
end
section
variable{C:Hw}{G E D:Gh}{H w w':World}{F:Nat->Nat}{U:B5}{h:Ak}{a:Act}{fid:FuncId}{ops:List Oper}
def FC{b:Nat}{t:TypeId}{f:Nat×Nat}:∀(c:List Value) (o:Nat) (a:Array Value) (w:World),w.heap[b]?=zz (.cells a t f)->o+zy c<=a.size->
  w.setCells b o c=w.setRow b (a.toList.take o++c++a.toList.drop (o+zy c)).toArray
 |[],o,a,w,d,_=>by simp[World.setCells,Br,BH,BE,CU,Array.toArray_toList];exact(setRow_self w b a t f d).symm
 |v::r,o,a,w,d,h=>by simp[Bg] at h;rw[World.setCells,setCell_eq_setRow w b o a t f v d,FC r (o+1) _ _ (setRow_heap w b a _ t f d) ES,setRow_setRow];have e:=list_seg_step a.toList o v r ES;grind
def Rf{t:TypeId}{n b o:Nat}(p:Ce C.P t=zz n){u:Value}(q:u.cells.size=n)(s:∀x∈u.cells.toList,x.oneCell'=true){a:Array Value}{e:TypeId}{h:Nat×Nat}(f:w.heap[b]?=zz (.cells a e h))(l:Xm h a.size)
  (hl:o+n<=a.size):(Instr.storeAt t (zc (zz ⟨b,o,zx⟩)) u).run C.P w= .ok () (w.setRow b (a.toList.take o++u.cells.toList++a.toList.drop (o+n)).toArray):=by
 have m:=run_storeCells_cells (P:=C.P) b o u.cells.toList 0 w (λj d=>by
  rw[cell_of_row w _ _ a e h f];simp at d;rw[Es Ab];rfl) (λj d=>by
  simp at d;simp only[World.frozen?,f];obtain rfl|l:=l
  .simp
  .simp;omega) s
 rw[BE,FC _ o a w f ES] at m;cases c:C.P.info? t with
 |none=>simp[Ce,c] at p
 |some i=>
  have r:i.size=n:=by simpa[Ce,c] using p
  simp[Instr.storeAt,xk,storeVar,sizeOf,typeInfo,c,r,q,m]
def bQ{Z:Type}{c e:List Z}{a n o:Nat}(hl:a+n<=zy c)(d:zy e=n)(ho:¬(a<=o/\o<a+n)):(c.take a++e++c.drop (a+n))[o]?=c[o]?:=by
 have b:(c.take a).length=a:=ES;by_cases h:o<a;.rw[An (by simp[d];omega),An Ab,D7 h]
 .rw[Bu (by simp[d];omega),CF];congr 1
  simp[d];omega
def kN{Z:Type}{c:List Z}{a n:Nat}{x:Z}(hl:a+n<=zy c):(c.take a++[x]++c.drop (a+n))[a]?=zz x:=by have b:(c.take a).length=a:=ES;grind
def OU{Z:Type}{c d:List Z}{a n len:Nat}(hl:len<=zy c)(ho:a+n<=len)(e:zy d=n):
  (c.take a++d++c.drop (a+n)).take len=(c.take len).take a++d++(c.take len).drop (a+n):=by
 have b:(c.take a++d).length=a+n:=by simp[e];omega
 rw[tw,AL Ab,b,FL,CE Ab,List.drop_take]
def QA{b c:List Ad}{a d:List Value}{off n:Nat}(h:Bt E b a)(e:Bt E c d):Bt E (b.take off++c++b.drop (off+n)) (a.take off++d++a.drop (off+n)):=
 ((h.take off).append e).append (h.drop (off+n))
def Kk.aGR{B s d g:Nat}(o:E.BD g=zz (.loc s)){c:Option Nat}{v:Value}{u:Ad}(l:Array Value)(a:Kk E B w d c v u):Kk E B (w.setRow g l) d c v u:=by
 obtain a|⟨h,n,k,m,e,z,AH,t,r,b,j,i,f⟩:=a
 .exact yk a
 .have q:h≠g:=λp=>by subst p;rw[o] at b;cases b
  exact xp ⟨h,n,k,m,e,z,AH,t,r,b,j,by rwa[setRow_other w g h l q],f⟩
def bR(E:Gh)(w:World)(g:Nat)(a:Array Value):Tc g E w E (w.setRow g a):=
 ⟨.refl _,λb x d c _=>⟨c,setRow_other w g b a d⟩⟩
section
variable(hr:Dp C G H E F U h a w)
def Dp.xQ{s L HS y n:Nat}{O:List Ad}{B:List Nat}(T:U.at s= yi L O B){K:List Ad}{J:List Value}(R:Bt E K J)(h1:∀u∈J,u.oneCell'=true)(V:zy K=n)
  (X:y+n<=zy O) {BD:Bool} (GQ:BD=true->∃u x,J=[u]/\K=[x]/\Kk E H.heap.size w s (zz y) u x) {A:Array Value} {e:TypeId} (Y:w.heap[F s]?=zz (.cells A e (0,0))):
  Dp C G H E F (U.set s (yi HS (bB O y n K) (Vn B y n BD))) h a (w.setRow (F s) (A.toList.take y++J++A.toList.drop (y+n)).toArray):=by
 have h0:=hr.fr.JC s;rw[T] at h0;let⟨r,d,k,Ġ,e0,j,i,v,q⟩:=h0;rw[Y] at j;cases j;have D:zy J=n:=by rw[R.length,V]
 have P:y+n<=zy A.toList:=by rwa[i.length]
 refine⟨L_ hr.ED d _,⟨by simp[hr.fr.size],λf=>?_⟩,hr.Ex.write k (.refl _) AF rfl rfl rfl (λb hb=>⟨setRow_other w _ b _ hb,rfl⟩),hr.defers,hr.IF⟩;by_cases N:f=s
 .subst N;rw[B5.Gs (B5.RY (by rw[T];simp))];refine⟨r,d,k,_,e,setRow_heap w _ A _ e (0,0) Y,?_,?_,?_⟩;.simpa[bB] using QA i R
  .grind
  .intro o z;have KA:(BD=true/\o=y)\/(o∈B/\¬(y<=o/\o<y+n)):=by
    rw[Vn] at z;have Z:o∈B.filter (λo=> !(decide (y<=o)&&decide (o<y+n)))->o∈B/\¬(y<=o/\o<y+n):=λM=>by rw[GN] at M;refine⟨M.1,λhc=>?_⟩;have:=M.2;simp[hc.1,hc.2] at this
    cases BD with
    |true=>
     simp only[BV,A0] at z;obtain z|z:=z
     .exact yk ⟨rfl,z⟩
     .exact xp (Z z)
    |false=>exact xp (Z z)
   rcases KA with⟨c,rfl⟩|⟨c,Q⟩
   .obtain⟨u,x,rfl,rfl,t⟩:=GQ c;exact⟨u,x,zv (kN P),by simpa[bB] using kN X,t.aGR d _⟩
   .let⟨u,x,p,m,l⟩:=q o c;refine⟨u,x,?_,?_,l.aGR d _⟩;.rw[<-p];have:=bQ P D Q;exact zv this
    .rw[<-m];exact bQ X V Q
 .rw[B5.Ht (λx=>N x.symm)];exact(hr.fr.JC f).keptBut d (bR E w _ _) (by simp[Mr.ic];intro hx;cases hx;exact N rfl)
def R6{y:Operand}{v:Ad}(i:M4 C U y=true)(j:FV C U y=zz v)(k:Nat)(n:Option Nat):
  ∃D,E.le D/\Dp C G H D F (U.Ej (DI U y)) h a w/\B3 D v (a.eval y)/\Kk D H.heap.size w k n (a.eval y) v:=by
 rw[M4] at i;cases d:EN C U y with
 |none=>rw[d] at i;cases i
 |some p=>
  rw[d] at i;cases p with
  |BD u=>
   have b:u=v:=by rw[FV] at j;rw[d] at j;exact EZ j
   subst b;cases y with
   |tmp t=>have l:=It d;let⟨D,A,z,s,r⟩:=hr.take l k n;exact⟨D,A,by simpa[DI,l,B5.Ej] using z,s,r⟩
   |const c=>
    refine⟨E,.refl _,hr,H5 hr j,?_⟩;let⟨q,_⟩:=Vt (γ:=E) (β:=F) (w:=w) d;unfold EN at d;split at d;next e=>cases e
    .cases d
    .cases d;exact yk (yk rfl)
    .simp_all
    next e=>cases e
    .cases d
   |global g=>have kG:(C.IF g).map (λx=>Fb.val (Ad.CO x))=zz (.BD u):=d;simp_all
   |func f=>cases d
  |_=>cases i
end
def jh{B s:Nat}{c:Option Nat}{v:Value}{x:Ad}(h:Kk E B w s c v x):x.cells=[x]:=by rcases h with(rfl|⟨_,rfl⟩)|⟨_,_,_,_,_,_,_,rfl,_⟩<;>rfl
section
variable{o:Oper}{t:TypeId}{x y:Operand}
def ji{s J n D:Nat}{v:Ad}{BD:Bool}{c:Option (Nat×Ad)}{q:List Ad}{b:List Nat}{V:IT->Ak->Option LI}{i:B5}{h':Ak}(ho:o.op= .store t x y)(hd:o.dst=zx)
  (B:K4 C U t x y=zz (.Pe s J n v BD c D q b)) (Hn:(FA.Pe s J n v BD c D q b).PD C V U h i h') (L:Dp C G H E F U h a w):He C G H o a w i h':=by
 rw[K4] at B;split at B;.cases B
 .rename_i m l T M Z Iz Rd v' MR f_ ha hv;split at B
  .rename_i hl;simp only[BN,FA.Pe.injEq] at B;obtain⟨rfl,rfl,rfl,rfl,Q,N,rfl,rfl,rfl⟩:=B;obtain⟨hn,rfl,rfl⟩:=Hn;let⟨K,hx⟩:=M9 L ha;let⟨_,_,R,e,X,k,p,_⟩:=L.kM K;have ŏ:M+(m+1)<=R.size:=by have:=k.length;simp at this;omega
   let⟨f,d⟩:=IH (H5 L hv) Ab;have jj:(a.eval y).cells.size=m+1:=by have:=f.length;simp at this;omega
   have I3:=Rf MR jj d X (yk rfl) ŏ;rw[<-hx] at I3;have OK:(execOp a.eval o).run C.P w= .ok .skip (w.setRow (F T) (R.toList.take M++(a.eval y).cells.toList++R.toList.drop (M+(m+1))).toArray):=by simp[execOp,ho,I3]
   by_cases hw:BD=true
   .subst hw;rw[Ae Q] at N;subst N;simp[Bs] at Q;let⟨j,E7,LJ,O,r⟩:=R6 L Q.2 hv T (zz M);have KP:(U.Ej (DI U y)).at T= yi Z Iz Rd:=by
     cases y with
     |tmp t'=>
      simp[DI];cases ht:U.at t' with
      |BD u=>simp[B5.Ej];rwa[B5.Ht (λe=>by rw[e,K] at ht;cases ht)]
      |_=>exact K
     |_=>exact K
    have Na:=LJ.xQ (HS:=Z+1) (BD:=true) KP (Bt.mono E7 _ _ f) d hn hl (λ_=>?_) X;.exact He.skip OK (by rwa[hd])
    .have Y:(a.eval y).cells=#[a.eval y]:=by
      rcases r with(r|⟨z,r⟩)|⟨_,_,_,_,_,_,_,_,r,_⟩
      .subst r;rw[show a.eval y=_ from O];rfl
      .subst r;let⟨_,O⟩:=O;rw[O];rfl
      .rw[r];rfl
     exact⟨a.eval y,v',by rw[Y],jh r,r⟩
   .have g:=zv hw
    subst g;rw[Aa (by rw[Q];simp)] at N;subst N;exact He.skip OK (by rw[hd];exact L.xQ K f d hn hl (λe=>by cases e) X)
  .cases B
 .cases B
def V_{n:Nat}{p v:Ad}{N:Ak}(V:o.op= .store t x y)(Y:o.dst=zx)(MR:Ce C.P t=zz (n+1))(R:Hz C U x=zz (.ptr p))(T:FV C U y=zz v)(r:Cv h (n+1) p v=zz N)(A:Dp C G H E F U h a w):
  He C G H o a w U N:=by
 unfold Cv at r;split at r
 .rename_i Q c;let⟨b,M,d⟩:=(Uv A R);split at r
  .rename_i m D;split at r
   .rename_i K;cases r;let⟨s,e,fr,L,J,k,j⟩:=A.ED.cells Q m D b M;let⟨i,g⟩:=IH (H5 A T) Ab;have z:(a.eval y).cells.size=n+1:=by have:=i.length;simp at this;omega
    have B:zy m<=s.size:=by have:=k.length;simp at this;omega
    have O:=Rf MR z g L J (Ab:c+(n+1)<=s.size);rw[<-d] at O;let⟨X,Z⟩:=Pz A.ED D M L (s.toList.take c++(a.eval y).cells.toList++s.toList.drop (c+(n+1))).toArray (m.take c++v.cells++m.drop (c+(n+1)))
     (by simp[Ci,As,Az,Bp,CG,z];omega)
     (by
      obtain rfl|J:=J
      .exact yk rfl
      .refine xp (BC (OC ?_) J);simp[Ci,As,Az,Bp,CG,z];omega)
     (by
      have:=QA (off:=c) (n:=n+1) k i;rw[<-OU (zv B) K.2 (zv z)] at this;have f:(m.take c++v.cells++m.drop (c+(n+1))).length=zy m:=by simp[K.1];omega
      rw[f];exact zv this) (λu l=>by
      have f:(m.take c++v.cells++m.drop (c+(n+1))).length=zy m:=by simp[K.1];omega
      rw[f] at l;simp only[MM] at l;rw[OU (zv B) K.2 (zv z)] at l;simp only[AO,AA] at l;obtain l|l|l:=l
      .exact j u (BQ l)
      .exact g u l
      .exact j u (BU l))
    have OK:(execOp a.eval o).run C.P w= .ok .skip (w.setRow b (s.toList.take c++(a.eval y).cells.toList++s.toList.drop (c+(n+1))).toArray):=by simp[execOp,V,O]
    exact He.skip OK (by rw[Y];exact A.Kz X Z)
   .cases r
  .cases r
 .cases r
end
def Dp.freeze(J:Dp C G H E F U h a w){s T:Nat}{R:List Ad}{ow:List Nat}(hs:U.at s= yi T R ow):
  ∃D,E.le D/\Dp C G H D F (U.set s (z0 (.CO R))) h a w/\B3 D (.CO R) (a.tmps.getD s undef):=by
 have h0:=J.fr.JC s;rw[hs] at h0;let⟨t,f,A,K,e,m,l,k,z⟩:=h0;have Ņ:∀o,E.JJ (F s) o=zx:=λo=>by
  cases Q:E.JJ (F s) o with
  |none=>rfl
  |some u=>let⟨_,_,q⟩:=J.ED.JJ _ _ _ Q;rw[f] at q;obtain q|⟨_,_,_,q,_⟩:=q<;>cases q
 have P:E.le (E.DV (F s) K K.size zx):=⟨λb o v B=>by
  have:b≠F s:=λe=>by rw[e,Ņ] at B;cases B
  simp[yz,Aa this];exact B,λ_ _ X=>X,λ_ _ X=>X⟩
 have V:∀b M,E.BD b=zz (.Oa M)->b≠F s:=λb M B e=>by rw[e,f] at B;cases B
 have hv:B3 (E.DV (F s) K K.size zx) (.CO R) (a.tmps.getD s undef):=by
  refine⟨F s,0,t,Dr.Ir λi x hi=>?_⟩;let⟨u,d,c⟩:=l.get hi;have Y:i<K.size:=by have:=(Aq.1 d).1;exact zv this
  exact⟨u,by simp[yz,BV,B1,Ae Y];exact zv d,B3.mono P _ _ c⟩
 have aIu:∀b n,E.sz b=zz n->(∃K e fr,w.heap[b]?=zz (.cells K e fr)/\K.size=n)/\((E.DV (F s) K K.size zx).BD b=zx\/∃M,(E.DV (F s) K K.size zx).BD b=zz (.Oa M)):=λb n B=>by
  let⟨p,r⟩:=J.ED.sz b n B;by_cases L:b=F s;.subst L;exact⟨p,yk (by simp[yz])⟩
  .exact⟨p,by simp[yz,Aa L];exact r⟩
 refine⟨_,P,⟨⟨λb o v B=>?_,λM y Jo hy=>?_,λM Iz Q b B=>?_,λM es Q b B=>?_,J.ED.mu,λb x N=>?_,aIu⟩,⟨by simp[J.fr.size],λg=>?_⟩,?_,J.defers,λx Iz N=>Dr.mono P _ _ _ (J.IF x Iz N)⟩,hv⟩
 .by_cases L:b=F s
  .subst L;simp only[yz,BV] at B⊢;split at B;.exact⟨by rwa[cell_of_row _ _ _ K e (0,0) m],k v (by rw[Bf] at B;let⟨p,q⟩:=B;rw[<-q];exact Array.getElem_mem_toList p),yk AF⟩
   .cases B
  .simp only[yz,Aa L] at B⊢;exact J.ED.JJ b o v B
 .let⟨b,d,c⟩:=J.ED.Oa M y Jo hy;exact⟨b,d,by simp[yz,Aa (V b M c)];exact c⟩
 .let⟨Ei,Z,Ğ,d,qf,c,j⟩:=J.ED.cells M Iz Q b B;exact⟨Ei,Z,Ğ,d,qf,Bt.mono P _ _ c,j⟩
 .let⟨Ei,Z,d,c⟩:=J.ED.map M es Q b B;exact⟨Ei,Z,d,c.mono P⟩
 .by_cases L:b=F s;.subst L;exact J.ED.BD _ _ f
  .simp only[yz,Aa L] at N;exact J.ED.BD b x N
 .by_cases L:g=s;.subst L;rwa[B5.Gs (B5.RY (by rw[hs];simp))]
  .rw[B5.Ht (λx=>L x.symm)];exact(J.fr.JC g).keptBut f (⟨P,λb x B N _=>⟨by simp[yz,Aa B];exact N,rfl⟩⟩) (by simp[Mr.ic];intro N;cases N;exact L rfl)
 .refine⟨J.Ex.le.trans P,J.Ex.size,J.Ex.os,J.Ex.tape,J.Ex.output,λb B hn=>?_⟩;let⟨d,c⟩:=J.Ex.Qt b B hn;exact⟨d,by simp[yz,Aa (Ab:b≠F s)];exact c⟩
def Dp.Xp:∀{b:List (Nat×List Ad)} {E:Gh} {U:B5},Dp C G H E F U h a w->(∀p∈b,∃i q,U.at p.1= yi i p.2 q)->(b.map (·.1)).Nodup->
  ∃D,E.le D/\Dp C G H D F (U.E2 (b.map λ(s,m)=>(s,z0 (.CO m)))) h a w/\∀p∈b,B3 D (.CO p.2) (a.tmps.getD p.1 undef)
 |[],E,U,k,_,_=>⟨E,.refl _,k,AF⟩
 |(s,m)::b,E,U,k,r,l=>by
  simp only[Bn,CA] at l;let⟨i,q,t⟩:=r (s,m) AF;let⟨g,n,x,d⟩:=k.freeze t;let⟨c,o,v,Rw⟩:=Xp x (λp j=>by let⟨y,u,f⟩:=r p (by simp[j]);refine⟨y,u,?_⟩;rwa[B5.Ht (λe=>l.1 (by rw[show s=p.1 from e];exact Bv.2 ⟨p,j,rfl⟩))]) l.2
  refine⟨c,n.trans o,v,λp j=>?_⟩;obtain rfl|j:=A0.1 j
  .exact B3.mono o _ _ d
  .grind
def Pj:∀{k:List Operand} {j:List Ad} {b:List (Nat×List Ad)},HA C U k=zz (j,b)->
  (∀p∈b,∃i m,U.at p.1= yi i p.2 m)/\(b.map (·.1)).Nodup/\
  ∀D,(∀x u,FV C U x=zz u->B3 D u (a.eval x))->(∀p∈b,B3 D (.CO p.2) (a.tmps.getD p.1 undef))->Bt D j (k.map a.eval)
 |[],j,b,h=>by cases h;exact⟨AF,AF,λ_ _ _=>rfl⟩
 |x::k,j,b,h=>by
  rw[HA] at h;split at h;.cases h
  .rename_i Je g e;let⟨t,r,f⟩:=Pj e;split at h
   .rename_i s i v m l;split at h;.cases h
    .rename_i hn;cases h;have hsb:=It l;refine⟨λp o=>?_,?_,λD d c=>?_⟩;.grind
     .grind
     .exact⟨_,_,rfl,c (s,v) AF,f D d λp o=>c p (by simp[o])⟩
   .rename_i q _ l;cases n:q.Jt with
    |none=>rw[n] at h;cases h
    |some u=>rw[n] at h;cases h;exact⟨t,r,λD d c=>⟨_,_,rfl,d _ u (by rw[FV];rwa[l]),f D d c⟩⟩
   .cases h
def xS{o:Oper}{j:Fn}{first e:Array Operand}{d:Nat}{l k:List Ad}{b:List (Nat×List Ad)}(A:o.op= .makeFunc j first e)(B:o.dst=zz d)(K:BI C U first.toList=zz l)(J:HA C U e.toList=zz (k,b))(i:Dp C G H E F U h a w):
  He C G H o a w (((U.drop (b.map (·.1))).E2 (b.map λ(s,N)=>(s,z0 (.CO N)))).set d (z0 (.func j l k))) h:=by
 obtain⟨M,L,c⟩:=Pj J;let⟨D,m,O,t⟩:=(i.drop (b.map (·.1))).Xp (λp z=>by let⟨f,q,y⟩:=M p z;exact⟨f,q,by rw[B5.Vx,y]⟩) L
 refine He.value (w':=w) (v:= .func j (first.map a.eval) (e.map a.eval)) (by simp[execOp,A,Instr.makeFunc]) (by rw[B];exact O.put (d:=zz d) λ_ _=>⟨_,_,rfl,zv (Bt.mono m _ _ (Ez i K)),zv (c D (λx u r=>B3.mono m _ _ (H5 i r)) t)⟩)
end
end Go.Am
end
open Go.Builtin renaming append_→yu
open Go.Am.He renaming value→z6
open Go.Am.Gh renaming B6→yt
open Go.Deferred renaming ofValue→xc
open Go.Instr renaming buildSlice→xa,fill→x0
open ByteArray renaming size→wx
open Go.Conv renaming bytesToString→ww
open Array renaming range→wu
open Go.Sem renaming run_bind→yv,run_pure→x9
section
namespace Go.Am
open Go
section
variable{C:Hw}{T U V:Gh}{w0 w w':World}{O:Nat->Nat}{Z:B5}{h:Ak}{a:Act}{fid:FuncId}{ops:List Oper}
def Ea{P:Program}{s:Sem Value}{v:Value}(c:s.run P w= y5 v w'):(do pure (Next.value (<-s)):Sem Next).run P w= y5 (.value v) w':=by simp[c]
def Yd{J:Type}{z:Nat}:∀{AH:List (List J)},(∀r∈AH,zy r=z)->∀{i:Nat} {r:List J},AH[i]?=zz r->∀{j:Nat} {x:J},r[j]?=zz x->AH.flatten[i*z+j]?=zz x
 |[],_,i,r,hi,_,_,_=>by simp at hi
 |q::AH,a,0,r,hi,j,x,b=>by grind
 |q::AH,a,i+1,r,hi,j,x,b=>by have:=Yd (AH:=AH) (λr c=>a r (by simp[c])) hi b;grind
def IJ{J:Type}{z:Nat}:∀{AH:List (List J)},(∀r∈AH,zy r=z)->zy AH.flatten=zy AH*z
 |[],_=>AF
 |q::AH,b=>by simp[b q AF,IJ (AH:=AH) (λr c=>b r (by simp[c])),Ch,RH]
def QB{AH:List (List Ad)}{us:List Value}{z b o:Nat}(c:∀r∈AH,zy r=z)(d:Bt U AH.flatten us)(hi:∀(j:Nat) (u:Value),us[j]?=zz u->U.JJ b (o+j)=zz u):GJ U AH z b o:=by refine GJ.Ir λi r a=>⟨c r (C7 a),Dr.Ir λj x e=>?_⟩;let⟨u,hu,hx⟩:=d.get (Yd c a e);grind
def Dp.drew(b:Dp C T w0 U O Z h a w):Dp C T w0 U O Z h a w.drew:=b.Kz (b.ED.same rfl) (M7.drew U w)
def B5.Xq(Z:B5):Z.at (zy Z)= .undef:=by simp[B5.at,List.getD]
section
variable(hr:Dp C T w0 U O Z h a w)
def Dp.bS{x:Ad}{v:Value}(j:B3 U x v)(i:Kk U w0.heap.size w (zy Z) zx v x)(d:Option Nat):∃V,Dp C T w0 V O (Z.put d (.BD x)) h (a.put d v) w:=by
 cases d with
 |none=>exact⟨U,hr⟩
 |some d=>
  obtain i|⟨g,n,cap,us,e,z,AH,h1,m,f,b,c⟩:=i
  .exact⟨U,hr.put λs _=>⟨j,yk i⟩⟩
  .exact⟨_,(hr.GW (s':=d) (c':=zx) f b (λ_ u=>by rw[B5.Xq];simp) (λo i=>by cases i)).put λs l=>by cases l;exact⟨B3.mono (IG _ _ _) _ _ j,xp ⟨g,n,cap,us,e,z,AH,h1,m,by simp[Gh.GW],b,c⟩⟩⟩
def Dp.bT(us:Array Value)(e:TypeId){z n cap:Nat}{AH:List (List Ad)}(m:0<z)(t:zy AH=n)(x:∀r∈AH,zy r=z)(l:us.size=cap*z)(y:n<=cap)(v:cap<=maxLen)
  (p:Bt U AH.flatten (us.toList.take (n*z))) (h1:∀u∈us.toList.take (n*z),u.oneCell'=zp):
  ∃V,U.le V/\Dp C T w0 V O Z h a (w.alloc (.cells us e))/\B3 V (.sl z AH) (zq (zz ⟨w.heap.size,0,zx⟩) n cap)/\Kk V w0.heap.size (w.alloc (.cells us e)) (zy Z) zx (zq (zz ⟨w.heap.size,0,zx⟩) n cap) (.sl z AH):=by
 let⟨hi,f⟩:=RV hr.ED us e (0,0) (n*z) (zz (.tail (zy Z) zx (n*z))) (λo u s q=>h1 u (C7 (by rw[D7 s];exact zv q))) (xp (yk ⟨_,_,rfl⟩));refine⟨_,f.le,hr.Kz hi f,⟨⟨w.heap.size,0,zx⟩,cap,by rw[t],Ab,yk rfl,QB x (Bt.mono f.le _ _ p) λj u d=>?_⟩,xp ⟨w.heap.size,n,cap,us,e,z,AH,rfl,rfl,by simp[Gh.DV],hr.Ex.size,heap_alloc_new w _,l,y,v,m⟩⟩;rw[Cw] at d;split at d;next c=>simp[Gh.DV,BV,B1,Ae c];grind
 .cases d
end
def bU{size:Nat}:∀(h:List Value) (k:Nat) (a:Array Value),(∀v∈h,v.cells.size=size)->(k+zy h)*size<=a.size->
  x0 (λi=>zz (i*size,size)) a ((h.zipIdx k).map λp=>(p.2,p.1))=zz (a.toList.take (k*size)++h.flatMap (·.cells.toList)++a.toList.drop ((k+zy h)*size)).toArray
 |[],k,a,_,_=>by simp[x0]
 |v::h,k,a,q,r=>by
  have m:=q v AF;simp[Bg] at r;have E7:(k+1)*size+zy h*size<=a.size:=by rw[<-Ch];exact BC (OC (by congr 1;omega)) r
  have iV:(k+1)*size=k*size+size:=by rw[Ch,GO]
  simp only[tr,Bn,x0];have f:¬(v.cells.size≠size\/k*size+v.cells.size>a.size):=by rw[m];omega
  simp only[BR,decide_not,YV,Cj,Bool.not_eq_true',WS] at*;rw[Aa f];have o:v.cells.zipIdx.foldl (λcs (c,j)=>cs.setIfInBounds (k*size+j) c) a=(a.toList.take (k*size)++v.cells.toList++a.toList.drop (k*size+size)).toArray:=by rw[<-aWp,aR3];rw[Qy v.cells.toList (k*size) 0 a (by simp[m];omega)];simp[m]
  rw[o];have n:(a.toList.take (k*size)++v.cells.toList++a.toList.drop (k*size+size)).length=a.size:=by simp[m];omega
  rw[bU h (k+1) _ (λu s=>q u (by simp[s])) (by simp only[Ci];rwa[n,Ch])]
  congr 2
  have b:(a.toList.take (k*size)++v.cells.toList).length=(k+1)*size:=by simp[m];omega
  have e:(a.toList.take (k*size)++v.cells.toList++a.toList.drop (k*size+size)).take ((k+1)*size)=a.toList.take (k*size)++v.cells.toList:=by rw[<-b];exact FM
  have d:(a.toList.take (k*size)++v.cells.toList++a.toList.drop (k*size+size)).drop ((k+1+zy h)*size)=a.toList.drop ((k+(zy h+1))*size):=by
   rw[WT,AU (by rw[b];exact Er _ Ab),b,FJ,B4];congr 1
   have:(k+1+zy h)*size-(k+1)*size=zy h*size:=by rw[Ch (k+1)];omega
   rw[this,Ch k,Ch (zy h)];omega
  rw[e,d];simp
section
variable{P:Program}{t:TypeId}
def Nb(h:N8 P t=zp):∃i z,P.info? t=zz i/\i.zero=zz z/\z.cells.size=i.size:=by rw[N8] at h;grind
def Lv{n:Nat}{i:TypeInfo}(h:Ce P t=zz n)(hi:P.info? t=zz i):i.size=n:=by simpa[Ce,hi] using h
def NM{n:Nat}{i:TypeInfo}(h:LL P t=zz n)(hi:P.info? t=zz i):i.bytes=n:=by simpa[LL,hi] using h
end
def bV:∀{args:List Ad} {us:List Value} {z:Nat},Bt U args us->(∀x∈args,zy x.cells=z)->0<z->Bt U (args.map (·.cells)).flatten (us.flatMap (·.cells.toList))/\(∀u∈us.flatMap (·.cells.toList),u.oneCell'=zp)/\∀u∈us,u.cells.size=z
 |[],us,z,h,_,_=>by rw[Bt] at h;subst h;exact⟨rfl,AF,AF⟩
 |x::args,us,z,h,f,i=>by
  obtain⟨u,Ei,rfl,h1,k⟩:=h;have hx:=f x AF;let⟨b,e⟩:=IH h1 Ab;let⟨c,r2,d⟩:=bV k (λy j=>f y (by simp[j])) i;refine⟨zv (b.append c),λv a=>?_,λv a=>?_⟩;.grind
  .rcases A0.1 a with rfl|a
   .have:=b.length;simp at this;omega
   .grind
def kO{a:Act}:∀{l:List (Nat×Operand)} {k:Nat},l.map (·.1)=List.range' k (zy l)->l.map (λp=>(p.1,a.eval p.2))=((l.map λp=>a.eval p.2).zipIdx k).map λp=>(p.2,p.1)
 |[],k,_=>AF
 |(i,x)::l,k,h=>by simp[Bn,Bg,List.range'_succ,FU] at h;obtain⟨rfl,h⟩:=h;simp[tr,kO h]
section
variable{o:Oper}{t e:TypeId}{len n:Nat}{parts:Array (Nat×Operand)}
def ő{args:List Ad}{u:Ad}(Y:o.op= .buildSlice t len parts)(J:C.P.underlying t=zz (.slice e))(MR:Ce C.P e=zz (n+1))(X:parts.toList.map (·.1)=xx len)(N:N8 C.P e=zp)
  (L:BI C Z (parts.toList.map (·.2))=zz args) (v:AB (.Df (n+1)) args=zz u) (s:Dp C T w0 U O Z h a w):He C T w0 o a w (Z.put o.dst (.BD u)) h:=by
 let⟨i,z,hi,R,nT⟩:=Nb N;have G:=Lv MR hi;simp only[AB] at v;split at v
 .rename_i K;cases v;simp[Bs,EE,aCH,Cj] at K;let⟨F,M⟩:=K;have k:zy parts.toList=len:=by have:=Cx List.length X;exact zv this
  have y:zy args=len:=by have:=(Ez s L).length;simp at this;simp at k;omega
  let⟨f,j,g⟩:=bV (Ez s L) F (Dj n);have B:=f.length;rw[IJ (by intro r s;obtain⟨x,D,rfl⟩:=Bv.1 s;exact F x D),Ao,y] at B;have H:∃l:Array Value,l.toList=(parts.toList.map (·.2) |>.map a.eval).flatMap (·.cells.toList)/\(xa t len (parts.map λ(i,x)=>(i,a.eval x))).run C.P w= y5 (zq (zz ⟨w.heap.size,0,zx⟩) len len) (w.alloc (.cells l e)):=by
   have Q:(parts.map λ(i,x)=>(i,a.eval x)).toList=(((parts.toList.map (·.2)).map a.eval).zipIdx 0).map λp=>(p.2,p.1):=by have:=kO (a:=a) (by rwa[k,<-aQ8]);simp[Pr,List.map_map];exact this
   have A:=bU ((parts.toList.map (·.2)).map a.eval) 0 ((wu (len*(n+1))).map (z.cells[·%z.cells.size]!)) g (by simp at k⊢;rw[k];exact Af _);rw[<-Q] at A;have e0:((wu (len*(n+1))).map (z.cells[·%z.cells.size]!)).toList.drop ((0+((parts.toList.map (·.2)).map a.eval).length)*(n+1))=[]:=by apply AU;simp at k⊢;rw[k];exact Af _
   rw[e0] at A;simp only[X6,GD,B4,Br] at A;refine⟨_,rfl,?_⟩;by_cases h0:len*(n+1)=0
   .have d:len=0:=by
     obtain h|h:=Nat.mul_eq_zero.1 h0
     .exact h
     .omega
    subst d;have c:parts=#[]:=by apply Ka;exact zv k
    subst c;have b:(wu 0:Array Nat)=#[]:=rfl;simp[xa,run_underlying J,sizeOf,typeInfo,hi,newRow,x0,b]
   .exact run_buildSlice w t e len _ _ i z J hi R (by rw[G];rw[y] at M;omega) (by rwa[G]) (by rwa[G])
  let⟨l,q,H⟩:=H;have E:l.size=len*(n+1):=by rwa[<-CG,q]
  let⟨V,E7,Hi,DP,GQ⟩:=s.bT l e (AH:=args.map (·.cells)) (Dj n) (by simp[y]) (by intro r s;obtain⟨x,D,rfl⟩:=Bv.1 s;exact F x D) E (Af _)
   (by rw[y] at M;have:len<=len*(n+1):=Kb _ (Dj n);simp[maxLen];omega) (by rwa[q,AL (by rw[B];exact Af _)]) (by rwa[q,AL (by rw[B];exact Af _)])
  let⟨m,Na⟩:=Hi.bS DP GQ o.dst;exact z6 (by simp only[execOp,Y];exact Ea H) Na
 .cases v
def Œ(l:o.op= .buildSlice t len parts)(j:C.P.underlying t=zz (.slice e))(MR:Ce C.P e=zz (n+1))(hp:parts.toList.map (·.1)=xx len)(f:N8 C.P e=zp)(m:len=0)
  (k:Dp C T w0 U O Z h a w):He C T w0 o a w (Z.put o.dst (.BD (.FT (n+1)))) h:=by
 subst m;let⟨i,z,hi,hz,nT⟩:=Nb f;have c:parts=#[]:=by simp_all
 subst c;have b:(wu 0:Array Nat)=#[]:=rfl;have r:(xa t 0 ((#[]:Array (Nat×Operand)).map λ(i,x)=>(i,a.eval x))).run C.P w= y5 (zq (zz ⟨w.heap.size,0,zx⟩) 0 0) (w.alloc (.cells #[] e)):=by simp[xa,run_underlying j,sizeOf,typeInfo,hi,newRow,x0,b]
 let⟨V,E7,q,_,_⟩:=k.bT #[] e (n:=0) (AH:=[]) (Dj n) rfl AF AF (Af _) (by simp[maxLen]) (by rw[X6];exact(rfl:Bt U [] [])) AF;obtain⟨d,p⟩:=q.bS (x:= .FT (n+1)) ⟨_,rfl⟩ (yk (xp ⟨_,rfl⟩)) o.dst;exact z6 (by simp only[execOp,l];exact Ea r) p
end
def vd{G:TypeId}{size t:Nat}{v u r:Ad}{e:Value}(F:(∃T,C.P.underlying G=zz (.slice T))\/C.P.underlying G=zz .string)(hi:IA U h w)(A:B3 U u e)(q:Jd size t v u=zz r):
  ∃(AH:List (List Ad)) (y:List Value),Ee size t v AH=zz r/\Src C.P size G e (zy AH) y w/\Bt U AH.flatten y/\(∀r∈AH,zy r=size):=by
 unfold Jd at q;split at q;.rw[show e=_ from A];exact⟨[],[],q,⟨F,λ_=>rfl,run_firstCells_none w size 0 0 0,run_firstCells_none w.drew size 0 0 0,AF,AF⟩,rfl,AF⟩
 .rename_i z;split at q;.let⟨b,c⟩:=A;rw[c];exact⟨[],[],q,⟨F,λ_=>rfl,run_firstCells_some w _ _ _ _ _ [] AF (λj x p=>by simp at p),run_firstCells_some w.drew _ _ _ _ _ [] AF (λj x p=>by simp at p),AF,AF⟩,rfl,AF⟩
  .cases q
 .rename_i z AH;split at q
  .rename_i H;subst H;let⟨d,cap,c,V,J,M⟩:=A;let⟨us,i,g,f⟩:=M.values;have N:∀(j:Nat) (x:Value),us[j]?=zz x->d.add j=⟨d.block,d.off+j,zx⟩:=λj x p=>by
    have D:0<zy AH:=by grind
    have O:=Qs J V D;generalize d.block=b at*;generalize d.off=o at*;subst O;rw[Addr.add];split<;>simp_all
   rw[c];refine⟨AH,us,q,⟨F,λ_=>rfl,run_firstCells_some w _ _ _ _ _ us g (λj x p=>by rw[N j x p];exact(hi.JJ _ _ _ (f j x p)).1),run_firstCells_some w.drew _ _ _ _ _ us g (λj x p=>by rw[N j x p];exact(hi.JJ _ _ _ (f j x p)).1),g,λx R=>?_⟩,i,λr K=>?_⟩;.let⟨j,p⟩:=C8 R;exact(hi.JJ _ _ _ (f j x p)).2.1
   .let⟨j,p⟩:=C8 K;exact(M.get p).1
  .cases q
 .rename_i s;split at q
  .rename_i H;subst H;rw[show e=_ from A];have E:(Cs s).length=(⟨⟨s⟩⟩:ByteArray).size:=by simp[Cs,wx]
   have B:∀l:List UInt8,Bt U (Cs l).flatten (l.map λb=>zj .u8 b.toNat):=by
    intro l;induction l with
    |nil=>rfl
    |cons b l Q=>exact⟨_,_,rfl,rfl,Q⟩
   refine⟨Cs s,byteCells ⟨⟨s⟩⟩,q,?_,?_,λr K=>?_⟩;.rw[E];exact⟨F,λ_=>rfl,firstCells_string _ w,firstCells_string _ w.drew,by rw[byteCells_length,GP],λu A=>by obtain⟨_,_,rfl⟩:=Bv.1 A;rfl⟩
   .simpa[byteCells] using B s
   .obtain⟨b,_,rfl⟩:=Bv.1 K;rfl
  .cases q
 .cases q
def Dp.œ(F:Dp C T w0 U O Z h a w){g n cap z:Nat}{us:Array Value}{e:TypeId}{B AH:List (List Ad)}{A:List Value}(GQ:U.BD g=zz (.tail (zy Z) zx (n*z)))(hB:w0.heap.size<=g)(R:w.heap[g]?=zz (.cells us e (0,0)))
  (kE:us.size=cap*z) (hm:cap<=maxLen) (hz:0<z) (X:B3 U (.sl z B) (zq (zz ⟨g,0,zx⟩) n cap)) (hl:∀r∈AH,zy r=z) (hn:Bt U AH.flatten A) (h1:∀u∈A,u.oneCell'=zp) (E:n+zy AH<=cap):
  ∃V,U.le V/\Dp C T w0 V O Z h a (w.setRow g (us.toList.take (n*z)++A++us.toList.drop (n*z+zy A)).toArray)/\B3 V (.sl z (B++AH)) (zq (zz ⟨g,0,zx⟩) (n+zy AH) cap)/\
   Kk V w0.heap.size (w.setRow g (us.toList.take (n*z)++A++us.toList.drop (n*z+zy A)).toArray) (zy Z) zx (zq (zz ⟨g,0,zx⟩) (n+zy AH) cap) (.sl z (B++AH)):=by
 let⟨t,cap',xT,R7,_,hR⟩:=X;simp[Value.slice.injEq,BN] at xT;obtain⟨rfl,rfl,rfl⟩:=xT;simp only at hR;have Rg:zy A=zy AH*z:=by rw[hn.length,IJ hl]
 have M:(zy B+zy AH)*z<=us.size:=by rw[kE];exact Er _ E
 rw[Ch] at M;have c:(us.toList.take (zy B*z)).length=zy B*z:=ES;let⟨vs,m,q,l⟩:=hR.values;have L:vs=us.toList.take (zy B*z):=by
  apply Uj;intro j;by_cases H:j<zy B*z
  .have d:j<zy vs:=by rwa[q]
   have hc:=(F.ED.JJ _ _ _ (l j _ (Ap d))).1;rw[cell_of_row w _ _ us e (0,0) R,B1] at hc;rw[Ap d,D7 H];exact zv hc.symm
  .rw[Lp Ab,Lp (by rw[c];omega)]
 rw[L] at m;have Rx:∀u∈us.toList.take (zy B*z),u.oneCell'=zp:=λu Q=>by rw[<-L] at Q;let⟨j,H⟩:=C8 Q;exact(F.ED.JJ _ _ _ (l j u H)).2.1
 have f:(zy B+zy AH)*z=zy B*z+zy AH*z:=Ch _ _ _;have P:((us.toList.take (zy B*z)++A++us.toList.drop (zy B*z+zy A)).toArray).toList.take ((zy B+zy AH)*z)=us.toList.take (zy B*z)++A:=by
  have:(us.toList.take (zy B*z)++A).length=(zy B+zy AH)*z:=by rw[As,c,Rg,f]
  rw[<-this];exact FM
 have MR:(us.toList.take (zy B*z)++A++us.toList.drop (zy B*z+zy A)).length=us.size:=by simp[Rg];omega
 generalize p:(us.toList.take (zy B*z)++A++us.toList.drop (zy B*z+zy A)).toArray=G at*;have aSg:G.size=us.size:=by rw[<-p];exact zv MR
 let⟨hi,J⟩:=iu F.ED GQ R G ((zy B+zy AH)*z) (zy Z) zx (λo Y=>by
   rw[<-p,AO,List.getElem?_toArray,An Ab,D7 Y];simp)
  Ab (λo u Y Q=>by
   have:u∈G.toList.take ((zy B+zy AH)*z):=by refine C7 (i:=o) ?_;rw[D7 Y];exact zv Q
   rw[P,AA] at this;exact this.elim (Rx u) (h1 u)) (λo v X=>by
   have:=(F.ED.JJ _ _ _ X).1;rwa [cell_of_row w _ _ us e (0,0) R] at this)
 have hk:Tc g U w (U.DV g G ((zy B+zy AH)*z) (zz (.tail (zy Z) zx ((zy B+zy AH)*z)))) (w.setRow g G):=
  ⟨J,λb x N K _=>⟨by simp[Gh.DV,Aa N];exact K,setRow_other w g b G N⟩⟩
 have k:GJ (U.DV g G ((zy B+zy AH)*z) (zz (.tail (zy Z) zx ((zy B+zy AH)*z)))) (B++AH) z g 0:=by
  refine QB (us:=G.toList.take ((zy B+zy AH)*z)) (λr F=>?_) ?_ (λj u H=>?_)
  .rcases AA.1 F with F|F
   .let⟨i,hi⟩:=C8 F;exact(hR.get hi).1
   .exact hl r F
  .rw[P,Rs];exact(Bt.mono J _ _ m).append (Bt.mono J _ _ hn)
  .rw[Cw] at H;split at H;.rename_i hlt;simp[Gh.DV,BV,B1,Ae hlt];exact zv H
   .cases H
 refine⟨_,J,⟨hi,⟨F.fr.size,λs=>?_⟩,F.Ex.write hB J AF rfl rfl rfl (λb N=>⟨setRow_other w g b G N,by simp[Gh.DV,Aa N]⟩),F.defers,λx cs K=>Dr.mono J _ _ _ (F.IF x cs K)⟩,
  ⟨⟨g,0,zx⟩,cap,AF,zv E,yk rfl,k⟩,xp ⟨g,zy B+zy AH,cap,G,e,z,B++AH,rfl,rfl,by simp[Gh.DV],hB,setRow_heap w g us G e (0,0) R,by rw[aSg,kE],E,hm,hz⟩⟩
 by_cases hs:s=zy Z;.subst hs;rw[B5.Xq];trivial
 .exact(F.fr.JC s).keptBut GQ hk (by simp[Mr.ic];intro K;cases K;exact hs rfl)
def QC{t c ty:TypeId}{a:Array TypeId}{b:Array Value}(d:a[0]?=zz t)(h1:a[1]?=zz c):yu a ty b=yu #[t,c] ty b:=by simp only[yu,d,h1];rfl
def Bt.aC7{l:List Ad}{us:List Value}{n:Nat}(h:Bt U l us)(a:zy us<=n):Bt U l (us.take n):=by rwa[AL a]
section
variable{cs:List Ad}{z:Nat}
def PG:∀{n off:Nat},(CP cs z off n).flatten=(cs.drop off).take (n*z)
 |0,off=>by simp[CP]
 |n+1,off=>by rw[CP,Dk,PG,Ch,GO,RH (n*z) z,aGB,FJ]
def Rh:∀{n off:Nat},(CP cs z off n).length=n
 |0,off=>rfl
 |n+1,off=>by rw[CP,Bg,Rh]
def TX:∀{n off:Nat},off+n*z<=zy cs->∀r∈CP cs z off n,zy r=z
 |0,off,_,r,a=>by simp[CP] at a
 |n+1,off,c,r,a=>by
  rw[Ch,GO] at c;rw[CP,A0] at a;obtain rfl|a:=a
  .grind
  .exact TX Ab r a
end
def bW{L:TypeId}{size:Nat}{u:Ad}{i:Value}{AH:List (List Ad)}(J:(∃e',C.P.underlying L=zz (.slice e'))\/C.P.underlying L=zz .string)(hi:IA U h w)(D:B3 U u i)(v:Hy h size u=zz AH):
  ∃A:List Value,Src C.P size L i (zy AH) A w/\Bt U AH.flatten A/\(∀r∈AH,zy r=size):=by
 unfold Hy at v;split at v;.cases v;rw[show i=_ from D];exact⟨[],⟨J,λ_=>rfl,run_firstCells_none w size 0 0 0,run_firstCells_none w.drew size 0 0 0,AF,AF⟩,rfl,AF⟩
 .rename_i z;split at v;.cases v;let⟨b,c⟩:=D;rw[c];exact⟨[],⟨J,λ_=>rfl,run_firstCells_some w _ _ _ _ _ [] AF (λj x t=>by simp at t),run_firstCells_some w.drew _ _ _ _ _ [] AF (λj x t=>by simp at t),AF,AF⟩,rfl,AF⟩
  .cases v
 .rename_i z k;split at v
  .rename_i E;cases v;subst E;let⟨g,cap,c,X,N,V⟩:=D;let⟨us,m,d,f⟩:=V.values;have K:∀(j:Nat) (x:Value),us[j]?=zz x->g.add j=⟨g.block,g.off+j,zx⟩:=λj x t=>by
    have G:0<zy AH:=by
     obtain R|R:=S3 (zy AH)
     .have:zy us=0:=by rw[d,R,X6]
      rw[DR this] at t;simp at t
     .exact R
    have Z:=Qs N X G;generalize g.block=b at*;generalize g.off=o at*;subst Z;rw[Addr.add];split<;>simp_all
   rw[c];refine⟨us,⟨J,λ_=>rfl,run_firstCells_some w _ _ _ _ _ us d (λj x t=>by rw[K j x t];exact(hi.JJ _ _ _ (f j x t)).1),run_firstCells_some w.drew _ _ _ _ _ us d (λj x t=>by rw[K j x t];exact(hi.JJ _ _ _ (f j x t)).1),d,λx M=>?_⟩,m,λr O=>?_⟩;.let⟨j,t⟩:=C8 M;exact(hi.JJ _ _ _ (f j x t)).2.1
   .let⟨j,t⟩:=C8 O;exact(V.get t).1
  .cases v
 .rename_i s;split at v
  .rename_i E;cases v;subst E;rw[show i=_ from D];have H:(Cs s).length=(⟨⟨s⟩⟩:ByteArray).size:=by simp[Cs,wx]
   have F:∀l:List UInt8,Bt U (Cs l).flatten (l.map λb=>zj .u8 b.toNat):=by
    intro l;induction l with
    |nil=>rfl
    |cons b l ih=>exact⟨_,_,rfl,rfl,ih⟩
   refine⟨byteCells ⟨⟨s⟩⟩,?_,?_,λr O=>?_⟩;.rw[H];exact⟨J,λ_=>rfl,firstCells_string _ w,firstCells_string _ w.drew,by rw[byteCells_length,GP],λu D=>by obtain⟨_,_,rfl⟩:=Bv.1 D;rfl⟩
   .simpa[byteCells] using F s
   .obtain⟨b,_,rfl⟩:=Bv.1 O;rfl
  .cases v
 .rename_i id off n z;split at v
  .rename_i E;subst E;split at v
   .rename_i cs Q;split at v
    .rename_i hl;cases v;let⟨b,cap,hb,c,X,ġ,MR⟩:=D;let⟨us,e,fr,m,pf,d,f⟩:=hi.cells id cs Q b hb;have T:(((us.toList.take (zy cs)).drop off).take (n*z)).length=n*z:=by rw[Az,Bp,d.length];omega
     have K:∀j,(⟨b,off,zx⟩:Addr).add j=⟨b,off+j,zx⟩:=λj=>by rw[Addr.add];split<;>simp_all
     have Y:∀(j:Nat) (x:Value),(((us.toList.take (zy cs)).drop off).take (n*z))[j]?=zz x->w.cell? ((⟨b,off,zx⟩:Addr).add j)=zz x:=λj x t=>by
      rw[K,cell_of_row w _ _ us e fr m];rw[Cw] at t;split at t
      .rw[CF,Cw] at t;split at t;.exact zv t
       .cases t
      .cases t
     rw[c,Rh];refine⟨((us.toList.take (zy cs)).drop off).take (n*z),⟨J,λ_=>rfl,run_firstCells_some w _ _ _ _ _ _ T Y,run_firstCells_some w.drew _ _ _ _ _ _ T (λj x t=>Y j x t),T,λx M=>f x (BU (BQ M))⟩,?_,TX hl⟩;rw[PG];exact(d.drop off).take (n*z)
    .cases v
   .cases v
  .cases v
 .cases v
section
variable{o:Oper}{c:Call}{t t' e:TypeId}{n b:Nat}{s x:Operand}{v u r:Ad}
def Ri{AH:List (List Ad)}{news:List Value}(ho:o.op= .call c)(hc:c.callee= .builtin .append)(h0:c.argTypes[0]?=zz t)(h1:c.argTypes[1]?=zz t')(FD:c.args.toList=[s,x])(ht:C.P.underlying t=zz (.slice e))
  (GF:(∃e',C.P.underlying t'=zz (.slice e'))\/C.P.underlying t'=zz .string) (MR:Ce C.P e=zz (n+1)) (Ŕ:LL C.P e=zz (b+1)) (GQ:M4 C Z s=zp) (wU:N8 C.P e=zp) (hv:BI C Z [s,x]=zz [v,u])
  (HE:Ee (n+1) (b+1) v AH=zz r) (Mg:Src C.P (n+1) t' (a.eval x) AH.length news w) (Zv:Bt U AH.flatten news) (gd:∀q∈AH,q.length=n+1) (hr:Dp C T w0 U O Z h a w):He C T w0 o a w ((Z.Ej (DI Z s)).put o.dst (.BD r)) h:=by
 obtain⟨i,z,hi,hz,nT⟩:=Nb wU;have TN:=Lv MR hi;obtain⟨_,_,e0,hvs,gh⟩:=F8 hr hv;cases e0;have E:FV C Z s=zz v:=by
  unfold BI at hv;split at hv;.rename_i p ps B I;cases hv;exact B
  .cases hv
 obtain⟨U1,E7,LJ,DP,N⟩:=R6 hr GQ E (Z.Ej (DI Z s)).length zx;have ŕ:=Bt.mono E7 _ _ Zv;have OR:c.args.map a.eval=#[a.eval s,a.eval x]:=by apply IV;simp[FD]
 have OK:∀v' w',(yu #[t,t'] o.type #[a.eval s,a.eval x]).run C.P w= .ok v' w'->(execOp a.eval o).run C.P w= .ok (.value v') w':=λv' w' Bd=>by
  have:execOp a.eval o=(do pure (Next.value (<-yu #[t,t'] o.type #[a.eval s,a.eval x]))):=by rw[<-OR,<-QC (ty:=o.type) h0 h1];simp only[execOp,ho,resolve,hc];rfl
  rw[this];exact Ea Bd
 have LP:Src C.P i.size t' (a.eval x) AH.length news w:=by rw[TN];exact Mg
 have Kh:∀(base:Option Addr) (k cap:Nat) (rr:List (List Ad)) (olds:List Value),a.eval s= .slice base k cap->rr.length=k->(∀q∈rr,q.length=n+1)->Bt U1 rr.flatten olds->(∀q∈olds,q.oneCell'=zp)->
   (Builtin.firstCells i.size k (.slice base k cap)).run C.P w.drew= .ok olds.toArray w.drew->cap<k+AH.length->(k+AH.length)*(b+1)<=AN->r= .sl (n+1) (rr++AH)->
   He C T w0 o a w ((Z.Ej (DI Z s)).put o.dst (.BD r)) h:=by
  intro base k cap rr olds hs hk m Ģ F d hlt Td Ye;have TM:k+AH.length<=AN:=BC (Kb _ (Dj b)) Td;have Gq:=run_append_grow_src (P:=C.P) w t t' o.type e i z ht hi hz base k cap olds d (a.eval x) AH.length news LP hlt (by simp only[AN] at TM;omega) (by rw[NM Ŕ hi];exact growslice_fits hlt Td);rw[<-hs] at Gq;have EC:=grownCap_ge w (k+AH.length) cap e;have aSh:olds.length=k*(n+1):=by rw[Ģ.length,IJ m,hk]
  have W_:(olds++news).length=(k+AH.length)*(n+1):=by rw[As,aSh,Mg.newsLen,Ch]
  obtain⟨S,xR,Na,Rw,l⟩:=LJ.drew.bT ((olds++news).toArray++Builtin.zeroCells z.cells (grownCap w (k+AH.length) cap e-(k+AH.length))) e (z:=n+1) (n:=k+AH.length) (cap:=grownCap w (k+AH.length) cap e) (AH:=rr++AH) (Dj n) (by simp[hk])
   (λq hq=>(AA.1 hq).elim (m q) (gd q))
   (by simp only[LG,Ci,size_zeroCells,nT,TN,W_,<-Ch];congr 1;omega) EC (grownCap_le_maxLen w _ _ _ (by simp only[AN] at TM;simp only[maxLen];omega))
   (by simp only[Io,Rs];rw[<-W_,FM];exact Ģ.append ŕ)
   (λq hq=>by simp only[Io] at hq;rw[<-W_,FM,AA] at hq;exact hq.elim (F q) (Mg.one q))
  rw[Ye];obtain⟨R,f⟩:=Na.bS Rw l o.dst;exact z6 (OK _ _ Gq) f
 rcases N with(rfl|⟨A,rfl⟩)|⟨g,k,cap,us,J,A,rr,rfl,La,WZ,hB,hg,kE,M,hm,L⟩
 .have La:a.eval s= .slice none 0 0:=DP;cases AH with
  |nil=>
   have Ye:r= .slnil:=by simpa[Ee] using HE.symm
   have ux:news=[]:=DR (by simpa using Mg.newsLen);subst ux;have Bd:(yu #[t,t'] o.type #[a.eval s,a.eval x]).run C.P w= .ok (.slice zx 0 0) w:=by rw[La];have hl:=LP.len;have Zw:=LP.cells;simp only[BH] at hl Zw;rcases GF with⟨e',hk⟩|hk<;>simp[yu,run_underlying ht,run_underlying hk,sizeOf,typeInfo,hi,hl,Zw]
   rw[Ye];exact z6 (OK _ _ Bd) (LJ.put λ_ _=>⟨rfl,.inl (.inl rfl)⟩)
  |cons q AH=>
   have Sa:r= .sl (n+1) (q::AH)/\(q::AH).length*(b+1)<=AN:=by
    simp only[Ee] at HE;split at HE;.rename_i hb;cases HE;exact⟨rfl,hb⟩
    .cases HE
   exact Kh zx 0 0 [] [] La rfl AF rfl AF (run_firstCells_none _ _ _ _ _) AF (by simpa using Sa.2) (by simpa using Sa.1)
 .obtain⟨g,La⟩:=id DP;cases AH with
  |nil=>
   have Ye:A=n+1/\r= .FT A:=by
    simp only[Ee] at HE;split at HE;.rename_i iW;cases HE;exact⟨iW,by rw[iW]⟩
    .cases HE
   obtain⟨rfl,Ye⟩:=Ye;have ux:news=[]:=DR (by simpa using Mg.newsLen);subst ux;have Bd:(yu #[t,t'] o.type #[a.eval s,a.eval x]).run C.P w= .ok (.slice (zz ⟨g,0,zx⟩) 0 0) w:=by rw[La];have hl:=LP.len;have Zw:=LP.cells;simp only[BH] at hl Zw;rcases GF with⟨e',hk⟩|hk<;>simp[yu,run_underlying ht,run_underlying hk,sizeOf,typeInfo,hi,hl,Zw,storeCells,Result.andThen]
   rw[Ye];exact z6 (OK _ _ Bd) (LJ.put λ_ _=>⟨⟨g,rfl⟩,.inl (.inr ⟨_,rfl⟩)⟩)
  |cons q AH=>
   have Sa:r= .sl (n+1) (q::AH)/\(q::AH).length*(b+1)<=AN:=by
    simp only[Ee] at HE;split at HE;.rename_i hb;cases HE;exact⟨rfl,hb.2⟩
    .cases HE
   exact Kh (zz ⟨g,0,zx⟩) 0 0 [] [] La rfl AF rfl AF (run_firstCells_some w.drew _ _ _ _ _ [] AF (λj x hj=>by simp at hj)) AF (by simpa using Sa.2) (by simpa using Sa.1)
 .obtain⟨Q,K,xT,R7,_,hR⟩:=id DP;rw[La] at xT;simp only[Value.slice.injEq,BN] at xT;obtain⟨rfl,hk,rfl⟩:=xT;subst hk;simp only at hR;have D:A=n+1/\r= .sl (n+1) (rr++AH)/\(AH=[]\/(rr.length+AH.length)*(b+1)<=AN):=by
   cases AH with
   |nil=>
    simp only[Ee] at HE;split at HE;.rename_i iW;cases HE;exact⟨iW,by simp[iW],.inl rfl⟩
    .cases HE
   |cons q AH=>
    simp only[Ee] at HE;split at HE;.rename_i iW;cases HE;exact⟨iW.1,rfl,.inr iW.2⟩
    .cases HE
  obtain⟨rfl,Ye,Td⟩:=D;by_cases hroom:rr.length+AH.length<=cap
  .have hfit:rr.length*(n+1)+news.length<=us.size:=by rw[Mg.newsLen,kE,<-Ch];exact Er _ hroom
   have Bd:=run_append_room_src (P:=C.P) w t t' o.type e i ht hi g 0 rr.length cap (a.eval x) AH.length news LP hroom (λj hj=>by rw[cell_of_row w _ _ us J (0,0) hg,TN,Es Ab];rfl) (λj hj=>frozen_of_row w _ _ us J hg)
   rw[B1,TN,FC news _ us w hg hfit,<-La] at Bd;rw[La] at DP;obtain⟨S,xR,Na,Rw,l⟩:=LJ.œ WZ hB hg kE hm (Dj n) DP gd ŕ Mg.one hroom;obtain⟨R,f⟩:=Na.bS Rw l o.dst;rw[Ye];exact z6 (OK _ _ Bd) f
  .obtain⟨vs,B,I,H⟩:=hR.values;have PF:∀j,(⟨g,0,zx⟩:Addr).add j=⟨g,0+j,zx⟩:=λj=>by unfold Addr.add;split<;>simp_all
   refine Kh (zz ⟨g,0,zx⟩) rr.length cap rr vs La rfl (λq hq=>?_) B (λq hq=>?_) ?_ Ab ?_ Ye;.obtain⟨j,hj⟩:=C8 hq;exact(hR.get hj).1
   .obtain⟨j,hj⟩:=C8 hq;exact(LJ.ED.JJ _ _ _ (H j q hj)).2.1
   .rw[TN];exact run_firstCells_some w.drew _ _ _ _ _ vs I (λj y hj=>by rw[PF];exact(LJ.ED.JJ _ _ _ (H j y hj)).1)
   .rcases Td with rfl|Td
    .simp at hroom;omega
    .exact Td
def jk(q:o.op= .call c)(y:c.callee= .builtin .append)(z:c.argTypes[0]?=zz t)(h1:c.argTypes[1]?=zz t')(L:c.args.toList=[s,x])(m:C.P.underlying t=zz (.slice e))
  (j:(∃E,C.P.underlying t'=zz (.slice E))\/C.P.underlying t'=zz .string) (H:Ce C.P e=zz (n+1)) (k:LL C.P e=zz (b+1)) (K:M4 C Z s=zp) (l:N8 C.P e=zp) (i:BI C Z [s,x]=zz [v,u])
  (p:AB (.append (n+1) (b+1)) [v,u]=zz r) (d:Dp C T w0 U O Z h a w):He C T w0 o a w ((Z.Ej (DI Z s)).put o.dst (.BD r)) h:=by
 let⟨_,_,D,hvs,A⟩:=F8 d i;cases D;let⟨AH,news,J,G,F,B⟩:=vd j d.ED A p;exact Ri q y z h1 L m j H k K l i J G F B d
def xU(y:o.op= .call c)(z:c.callee= .builtin .append)(A:c.argTypes[0]?=zz t)(h1:c.argTypes[1]?=zz t')(L:c.args.toList=[s,x])(q:C.P.underlying t=zz (.slice e))
  (l:(∃F,C.P.underlying t'=zz (.slice F))\/C.P.underlying t'=zz .string) (J:Ce C.P e=zz (n+1)) (m:LL C.P e=zz (b+1)) (K:M4 C Z s=zp) (p:N8 C.P e=zp) (k:BI C Z [s,x]=zz [v,u])
  (d:TV h (n+1) (b+1) v u=zz r) (f:Dp C T w0 U O Z h a w):He C T w0 o a w ((Z.Ej (DI Z s)).put o.dst (.BD r)) h:=by
 let⟨_,_,E,hvs,B⟩:=F8 f k;cases E;rw[TV] at d;cases i:Hy h (n+1) u with
 |none=>rw[i] at d;cases d
 |some AH=>rw[i] at d;let⟨news,H,G,D⟩:=bW l f.ED B i;exact Ri y z A h1 L q l J m K p k d H G D f
end
end
section
variable{C:Hw}{γ0 γ γ':Gh}{w0 w w':World}{Z:Nat->Nat}{U:B5}{h:Ak}{a:Act}{fid:FuncId}{ops:List Oper}
def Vy:∀s:Aj,(Cs s).flatten=s.map λb=>Ad.int .u8 b.toNat
 |[]=>rfl
 |_::s=>by have:=Vy s;simp only[Cs,Bn,Dk] at this⊢;rw[this];rfl
def Od(γ:Gh):∀l:Aj,Bt γ (Cs l).flatten (l.map λb=>zj .u8 b.toNat)
 |[]=>rfl
 |_::l=>⟨_,_,rfl,rfl,Od γ l⟩
def MT(s:Aj)(cap:Nat):(bytesRow ⟨⟨s⟩⟩ cap).toList.take (zy s)=s.map λb=>zj .u8 b.toNat:=by have:(s.map λb=>zj .u8 (b.toNat:Int)).length=zy s:=AF;simp only[bytesRow,Io,Pr];rw[<-this];exact FM
def nU(s:Aj):(⟨⟨s⟩⟩:ByteArray).size=zy s:=by simp[wx]
section
variable{o:Oper}{src dst e:TypeId}{x:Operand}{v u:Ad}
def aC9(p:o.op= .convert src dst x)(E:C.P.underlying src=zz .string)(G:C.P.underlying dst=zz (.slice e))(F:C.P.underlying e=zz (.int .u8))(A:BI C U [x]=zz [v])(i:AB .s2b [v]=zz u)(l:Dp C γ0 w0 γ Z U h a w):
  He C γ0 w0 o a w (U.put o.dst (.val u)) h:=by
 let⟨_,J,B⟩:=Ib l A;cases J;simp[AB] at i;split at i
 .rename_i s K;cases K;split at i
  .cases i;have t:=run_bytes_of_string w src dst e ⟨⟨s⟩⟩ E G F;rw[<-Qw B] at t;rw[nU] at t;let⟨hi,H⟩:=RV l.drew.ED (bytesRow ⟨⟨s⟩⟩ (grownCap w (zy s) 0 e)) e ((bytesRow ⟨⟨s⟩⟩ (grownCap w (zy s) 0 e)).size,(bytesRow ⟨⟨s⟩⟩ (grownCap w (zy s) 0 e)).size+1) (zy s) zx (λo u p D=>by have y:u∈(bytesRow ⟨⟨s⟩⟩ (grownCap w (zy s) 0 e)).toList.take (zy s):=C7 (by rw[D7 p];exact zv D);rw[MT] at y;obtain⟨b,_,rfl⟩:=Bv.1 y;rfl) (yk rfl)
   refine z6 (by simp only[execOp,p];exact Ea t) ((l.drew.Kz hi H).put λ_ _=>⟨⟨w.heap.size,0,zx⟩,grownCap w (zy s) 0 e,by simp[Cs],by simpa[Cs] using (grownCap_ge w (zy s) 0 e),yk rfl,?_⟩);refine QB (λr l=>?_) (Od _ s) (λj u n=>?_);.obtain⟨b,_,rfl⟩:=Bv.1 l;rfl
   .rw[<-MT s (grownCap w (zy s) 0 e),Cw] at n;split at n;.rename_i q;simp[Gh.DV,heap_drew,BV,B1,Ae q];exact zv n
    .cases n
  .cases i
 .cases i
def nV{h':Ak}(A:o.op= .convert src dst x)(z:C.P.underlying src=zz .string)(E:C.P.underlying dst=zz (.slice e))(D:C.P.underlying e=zz (.int .u8))(y:FV C U x=zz v)(k:Ki h v=zz (h',u))(r:Dp C γ0 w0 γ Z U h a w):
  He C γ0 w0 o a w (U.put o.dst (.val u)) h':=by
 unfold Ki at k;split at k
 .rename_i s;split at k
  .cases k;have p:=run_bytes_of_string w src dst e ⟨⟨s⟩⟩ z E D;rw[<-Qw (H5 r y)] at p;have c:=grownCap_ge w (zy s) 0 e;rw[nU] at p;have t:(s.map λb=>Ad.int .u8 b.toNat).length=zy s:=AF;have d:(bytesRow ⟨⟨s⟩⟩ (grownCap w (zy s) 0 e)).size=grownCap w (zy s) 0 e:=by simp[bytesRow,LG,Array.size_map,Array.size_replicate,nU s,Ci];omega
   have n:zy s<=maxLen:=by
    have n:zy s<=AN:=by assumption
    simp[AN] at n;simp[maxLen];omega
   let⟨γ',E7,B,F,MR⟩:=r.drew.newObj (bytesRow ⟨⟨s⟩⟩ (grownCap w (zy s) 0 e)) e ((bytesRow ⟨⟨s⟩⟩ (grownCap w (zy s) 0 e)).size,(bytesRow ⟨⟨s⟩⟩ (grownCap w (zy s) 0 e)).size+1) (s.map λb=>Ad.int .u8 b.toNat) (xp (Af _))
    (by rw[t,MT];have:=Od γ s;rwa[Vy] at this)
    (λu q=>by rw[t,MT] at q;obtain⟨b,_,rfl⟩:=Bv.1 q;rfl)
   exact z6 (by simp only[execOp,A];exact Ea p) (F.put λ_ _=>⟨w.heap.size,_,B,rfl,c,⟨Dj 0,grownCap_le_maxLen w _ _ _ n⟩,by rwa[B1,GP,<-d]⟩)
  .cases k
 .cases k
end
def Jw{O:Type}(l:List O):∀(c j:Nat),j<c*zy l->(y0 c l).flatten[j]?=l[j%zy l]?
 |0,j,h=>by simp at h
 |c+1,j,h=>by
  have h':j<c*zy l+zy l:=by rw[Ch] at h;omega
  rw[MN,Dk];by_cases a:j<zy l;.rw[An a,Nat.mod_eq_of_lt a]
  .rw[Bu Ab,Jw l c _ Ab,show j%zy l=(j-zy l)%zy l from Nat.mod_eq_sub_mod Ab]
def Ŗ{o:Oper}{t e:TypeId}{l c:Operand}{n b:Nat}{z:Ad}{D vc u:Ad}{h':Ak}(ho:o.op= .makeSlice t l c)(ht:C.P.underlying t=zz (.slice e))(MR:Ce C.P e=zz (n+1))(Ŕ:LL C.P e=zz (b+1))(O:Ip C.P e=zz z)(hl:FV C U l=zz D)(hc:FV C U c=zz vc)
  (Q:Vk h (n+1) (b+1) z.cells D vc=zz (h',u)) (R:Dp C γ0 w0 γ Z U h a w):He C γ0 w0 o a w (U.put o.dst (.val u)) h':=by
 unfold Vk at Q;split at Q
 .rename_i k m;split at Q
  .rename_i Jf;let⟨K,J,I,B⟩:=Jf;cases Q;rw[Ip] at O;cases hi:C.P.info? e with
   |none=>rw[hi] at O;cases O
   |some i=>
    rw[hi] at O;cases X:i.zero with
    |none=>simp[X] at O
    |some f=>
     simp[CR,X] at O;have V:=Lv MR hi;let⟨E,G⟩:=IH (γ:=γ) (Gr O) Ab;have nT:f.cells.size=n+1:=by have:=E.length;simp at this;omega
     have q:=I;have g:=BC (Kb m.toNat (Dj b)) q;have Bd:=run_make w t e i f ht hi X .i64 .i64 k m K J (by
      rw[NM Ŕ hi];have H:((b+1:Nat):Int)*m=((m.toNat*(b+1):Nat):Int):=by rw[Int.natCast_mul,Ft Ab,Int.mul_comm]
      rw[H];simp[AN] at q;omega) (by simp[AN] at g;omega)
     rw[<-Fl (H5 R hl),<-Fl (H5 R hc)] at Bd;have T:((y0 m.toNat z.cells).flatten).length=m.toNat*(n+1):=by rw[IJ (λr R=>by rw[aGC R,B]),Hc]
     have p:∀(j:Nat) (u:Value),(madeCells f.cells (m.toNat*i.size)).toList[j]?=zz u->j<m.toNat*(n+1)/\f.cells.toList[j%(n+1)]?=zz u:=by
      intro j u N;have Y:j<m.toNat*(n+1):=by have:=(Aq.1 N).1;simpa[size_madeCells,V] using this
      refine⟨Y,?_⟩;have aIz:j%(n+1)<f.cells.size:=by rw[nT];exact Nat.mod_lt _ (Dj n)
      simp only[madeCells,Pr,Cp] at N;have d:(wu (m.toNat*i.size)).toList[j]?=zz j:=by simp[V,Y]
      rw[d] at N;simp[Cb,BN] at N;rw[nT] at N;rw[<-N];simp[aIz]
     have F:Bt γ (y0 m.toNat z.cells).flatten (madeCells f.cells (m.toNat*i.size)).toList:=by refine Bt.Ir (by simp[T,size_madeCells,V]) λj x u hx hu=>?_;let⟨Y,y⟩:=p j u hu;rw[Jw z.cells _ _ (by rwa[B]),B] at hx;let⟨L,wS,s⟩:=E.get hx;rw[y] at wS;cases wS;exact s
     let⟨γ',E7,v,Hi,aSk⟩:=R.newObj (madeCells f.cells (m.toNat*i.size)) e (0,0) (y0 m.toNat z.cells).flatten (yk rfl) (F.aC7 (by rw[F.length];exact Af _)) (λu hu=>by let⟨j,N⟩:=C8 (BQ hu);exact G u (C7 (p j u N).2))
     exact z6 (by simp only[execOp,ho];exact Ea Bd) (Hi.put λ_ _=>⟨w.heap.size,m.toNat,v,rfl,Ab,⟨Dj n,by simp[AN] at g;simp[maxLen];omega⟩,by rw[aSk,size_madeCells,V,B1]⟩)
  .cases Q
 .cases Q
section
variable(hr:Dp C γ0 w0 γ Z U h a w)
def Dp.aMt{g:Nat}(K:γ.BD g=zz (.tail (zy U) zx 0))(hB:w0.heap.size<=g){us:Array Value}{e:TypeId}(T:w.heap[g]?=zz (.cells us e (0,0)))(t:Array Value)(cs:List Ad)
  (N:Bt γ cs (t.toList.take (zy cs))) (h1:∀u∈t.toList.take (zy cs),u.oneCell'=zp):∃B,γ.le B/\B.mu (zy h)=zz g/\Dp C γ0 w0 B Z U (h++[.cells cs]) a (w.setRow g t)/\B.sz g=zz t.size:=by
 have f:γ.mu (zy h)=zx:=by
  cases A:γ.mu (zy h) with
  |none=>rfl
  |some y=>cases (DT _) (hr.ED.mu _ y A)
 have MR:γ.sz g=zx:=by
  cases A:γ.sz g with
  |none=>rfl
  |some y=>let⟨_,r⟩:=hr.ED.sz g y A;rw[K] at r;obtain r|⟨_,r⟩:=r<;>cases r
 have G:γ.le (γ.B6 g (zy h) (zz t.size)):=⟨λ_ _ _ N=>N,λid b E=>by
  have:id≠zy h:=λl=>by rw[l,f] at E;cases E
  simp[yt,Aa this];exact E,λb n E=>by
  have:b≠g:=λl=>by rw[l,MR] at E;cases E
  simp[yt,Aa this];exact E⟩
 have O:∀b n,(γ.B6 g (zy h) (zz t.size)).sz b=zz n->(∃us e fr,(w.setRow g t).heap[b]?=zz (.cells us e fr)/\us.size=n)/\((γ.B6 g (zy h) (zz t.size)).BD b=zx\/∃id,(γ.B6 g (zy h) (zz t.size)).BD b=zz (.Oa id)):=λb n k=>by
  by_cases l:b=g;.subst l;simp[yt,BV] at k;cases k;exact⟨⟨t,e,(0,0),setRow_heap w b us t e (0,0) T,rfl⟩,xp ⟨zy h,by simp[yt]⟩⟩
  .simp only[yt,Aa l] at k⊢;let⟨p,r⟩:=hr.ED.sz b n k;exact⟨by rwa[setRow_other w g b t l],r⟩
 have D:∀b id,γ.BD b=zz (.Oa id)->b≠g:=λb id k l=>by rw[l,K] at k;cases k
 refine⟨_,G,by simp[yt],⟨⟨λb o v k=>?_,λid y M L=>?_,λid P A b k=>?_,λid es A b k=>?_,λid b k=>?_,λb y L=>?_,O⟩,⟨hr.fr.size,λs=>?_⟩,hr.Ex.write hB G AF rfl rfl rfl (λb k=>⟨setRow_other w g b t k,by simp[yt,Aa k]⟩),hr.defers,λx P H=>Dr.mono G _ _ _ (hr.IF x P H)⟩,by simp[yt]⟩
 .let⟨p,q,r⟩:=hr.ED.JJ b o v k;have J:b≠g:=λl=>by
   subst l;rw[K] at r;obtain r|⟨_,_,_,r,R⟩:=r
   .cases r
   .cases r;omega
  exact⟨by rwa[C9 (setRow_other w g b t J)],q,by simp[yt,Aa J];exact r⟩
 .by_cases l:id=zy h;.exact⟨g,by simp[yt,l],by simp[yt,l]⟩
  .have bI:id<zy h:=by rw[Aq] at M;let⟨R,_⟩:=M;simp at R;omega
   rw[An bI] at M;let⟨b,p,q⟩:=hr.ED.Oa id y M L;exact⟨b,by simp[yt,Aa l];exact p,by simp[yt,Aa (D b id q)];exact q⟩
 .by_cases l:id=zy h;.subst l;simp[yt] at k;subst k;simp at A;subst A;exact⟨t,e,(0,0),setRow_heap w g us t e (0,0) T,yk rfl,Bt.mono G _ _ N,h1⟩
  .simp only[yt,Aa l] at k;rw[An (hr.ED.mu id b k)] at A;let⟨b',c,d⟩:=hr.ED.Oa id _ A AF;rw[k] at c;cases c;let⟨Y,i,V,p,X,q,r⟩:=hr.ED.cells id P A b k;exact⟨Y,i,V,by rwa[setRow_other w g b t (D b id d)],X,Bt.mono G _ _ q,r⟩
 .by_cases l:id=zy h;.subst l;simp at A
  .simp only[yt,Aa l] at k;rw[An (hr.ED.mu id b k)] at A;let⟨b',c,d⟩:=hr.ED.Oa id _ A AF;rw[k] at c;cases c;let⟨DU,F,p,q⟩:=hr.ED.map id es A b k;exact⟨DU,F,by rwa[setRow_other w g b t (D b id d)],q.mono G⟩
 .by_cases l:id=zy h;.simp[l]
  .simp only[yt,Aa l] at k;have:=hr.ED.mu id b k;simp;omega
 .by_cases J:b=g;.subst J;have:=hr.ED.BD _ _ K;exact zv this
  .simp only[yt,Aa J] at L;have:=hr.ED.BD b y L;exact zv this
 .by_cases Q:s=zy U;.subst Q;rw[B5.Xq];trivial
  .exact(hr.fr.JC s).keptBut K (⟨G,λb x k H _=>⟨by simp[yt,Aa k];exact H,setRow_other w g b t k⟩⟩) (by simp[Mr.ic];intro H;cases H;exact Q rfl)
def Dp.RL{v J:Ad}{u:Value}{h':Ak}(L:B3 γ v u)(A:LH h v=zz (h',J)):∃B,γ.le B/\Dp C γ0 w0 B Z U h' a w/\B3 B J u:=by
 unfold LH at A;split at A
 .rename_i id off n z;let⟨b,cap,M,hu,hc,hz,MR⟩:=L;split at A
  .rename_i cs E;split at A
   .rename_i hl;cases A;let⟨us,e,fr,q,pf,p,m⟩:=hr.ED.cells id cs E b M;let⟨hi,H⟩:=Ň hr.ED E M q m;have N:∀(k o:Nat),(CP cs z o k).length=k:=by
     intro k;induction k with
     |zero=>intro o;rfl
     |succ k F=>intro o;simp[CP,F]
    have d:∀(k o i:Nat) (r:List Ad),(CP cs z o k)[i]?=zz r->i<k/\r=(cs.drop (o+i*z)).take z:=by
     intro k;induction k with
     |zero=>intro o i r h;simp[CP] at h
     |succ k F=>
      intro o i r h;cases i with
      |zero=>simp[CP] at h;exact⟨Dj _,zv h.symm⟩
      |succ i=>simp[CP] at h;let⟨l,g⟩:=F _ _ _ h;exact⟨Ab,by rw[g];congr 2;rw[Ch];omega⟩
    refine⟨_,H.le,hr.Kz hi H,⟨b,off,zx⟩,cap,by rwa[N],by rwa[N],yk rfl,GJ.Ir λi r f=>?_⟩;obtain⟨l,rfl⟩:=d n off i r f;have t:i*z+z<=n*z:=by have:=Er z (Ab:i+1<=n);rwa [Ch,GO] at this
    refine⟨ES,Dr.Ir λj x D=>?_⟩;rw[Cw] at D;split at D;next s=>rw[CF] at D;let⟨y,K,c⟩:=p.get D;refine⟨y,?_,B3.mono H.le _ _ c⟩;simp[Gh.DV,BV,Ae ((Aq.1 D).1)];rw[D7 ((Aq.1 D).1)] at K;exact zv K
    .cases D
   .cases A
  .cases A
 .cases A;exact⟨γ,.refl _,hr,L⟩
end
def Vz:∀{AH:List (List Ad)} {s:Aj},OP AH=zz s->∃b:List Int,AH=b.map (λn=>[.int .u8 n])/\s=b.map λn=>UInt8.ofNat n.toNat
 |[],s,a=>by cases a;exact⟨[],rfl,rfl⟩
 |r::AH,s,a=>by
  unfold OP at a;split at a;next d=>cases d
  .rename_i n rs d;cases d;cases c:OP AH with
   |none=>rw[c] at a;cases a
   |some l=>rw[c] at a;cases a;obtain⟨b,rfl,rfl⟩:=Vz c;exact⟨n::b,rfl,rfl⟩
  .cases a
def bX:∀(a:List Int) (r:ByteArray),a.foldl (λr n=>r.push (UInt8.ofNat n.toNat)) r=⟨r.data++(a.map λn=>UInt8.ofNat n.toNat).toArray⟩
 |[],r=>AF
 |n::a,r=>by rw[Ě,bX a];simp[ByteArray.push]
def aDa{o:Oper}{A D e:TypeId}{x:Operand}{v R u:Ad}{h':Ak}(ho:o.op= .convert A D x)(hs:C.P.underlying A=zz (.slice e))(hd:C.P.underlying D=zz .string)(he:C.P.underlying e=zz (.int .u8))(hx:FV C U x=zz v)(hf:LH h v=zz (h',R))(q:AB .aQ [R]=zz u)
  (V:Dp C γ0 w0 γ Z U h a w):He C γ0 w0 o a w (U.put o.dst (.val u)) h':=by
 let⟨γ',E7,L,M⟩:=V.RL (H5 V hx) hf;have Y:∀s,(ww (a.eval x)).run C.P w= y5 s w->(∃p l c,a.eval x= zq p l c)->(execOp a.eval o).run C.P w= y5 (.value s) w:=λs E ⟨p,l,c,K⟩=>by simp only[execOp,ho];refine Ea ?_;rw[K] at E⊢;rwa[run_convert_bytes_string w A D e p l c hs he hd]
 simp[AB] at q;unfold aS at q;split at q
 .rename_i AH;cases H:OP AH with
  |none=>rw[H] at q;cases q
  |some s=>
   rw[H] at q;cases q;obtain⟨B,rfl,rfl⟩:=Vz H;let⟨d,cap,K,hc,G,hR⟩:=M;have PF:∀(j:Nat) (v:Value),(B.map (zj .u8))[j]?=zz v->d.add j=⟨d.block,d.off+j,zx⟩:=λj v z=>by
    have F:0<zy B:=by have:=(Aq.1 z).1;simp at this;omega
    have ja:=Qs G hc (zv F);generalize d.block=b at*;generalize d.off=o at*;subst ja;rw[Addr.add];split<;>simp_all
   have X:=run_loadCells_list (P:=C.P) w d (B.map (zj .u8)) (λj v z=>by
    rw[PF j v z];simp only[Cp] at z;cases J:B[j]? with
    |none=>rw[J] at z;cases z
    |some n=>rw[J] at z;cases z;let⟨_,m⟩:=hR.get (i:=j) (r:=[.int .u8 n]) (by simp[J]);let⟨y,T,g⟩:=m.get (i:=0) rfl;rw[show y=_ from g] at T;have:=(L.ED.JJ _ _ _ T).1;exact zv this)
   simp[Ao] at X;have E:=run_bytesToString w d (zy B) cap B X;have k:ByteArray.empty.data=#[]:=rfl;rw[bX,k,Array.empty_append] at E;have f:a.eval x= zq (zz d) (zy B) cap:=by rw[K];simp
   rw[<-f] at E;exact z6 (Y _ E ⟨_,_,_,f⟩) (L.put λ_ _=>rfl)
 .cases q;have E:(ww (a.eval x)).run C.P w= y5 (.string ⟨⟨[]⟩⟩) w:=by rw[M];simp[ww];rfl
  exact z6 (Y _ E ⟨_,_,_,M⟩) (L.put λ_ _=>rfl)
 .cases q
def ŗ(C:Hw)(f:FuncId):Prop:=
 (∃fn c,C.P.funcs[f]?=zz fn/\(fn.name== "runtime.NumGoroutine")=zr/\fn.body=zz c)/\
 ∀(γ:Gh) (h:Ak) (w:World) (s:Ad) (d:Value) (i x:Int) (h':Ak) (r:Ad) (g b:Nat) (us:Array Value) (e:TypeId),IA γ h w->B3 γ s d->S8 h [s,.int .i64 i,.sl 1 [[.int .i64 x]]]=zz (h',r)->
  w.heap[g]?=zz (.cells us e (0,0))->us[0]?=zz (.int .i64 x)->(∀id,γ.BD g≠zz (.Oa id))->1<=b->us.size=b->
  Calls C.P f #[d,.int .i64 i,zq (zz ⟨g,0,zx⟩) 1 b] w λe w'=>match e with
   | .returned v=>∃a,IA a h' w'/\M7 γ w a w'/\B3 a r v
   |_=>False
def F9(C:Hw)(b:IT->Ak->Option LI):Prop:=
 ((∀g cs,C.IF g=zz cs->cs.all Ad.OJ=zp)/\∀f,C.Mf f=zp->ŗ C f)/\
 ∀(f:FuncId) (args:List Ad) (h:Ak) (r:Ad) (h':Ak),b (Cf C f args) h=zz (.ret,[r],h')->
  (∃fn c,C.P.funcs[Fq f]?=zz fn/\(fn.name== "runtime.NumGoroutine")=zr/\fn.body=zz c)/\
  ∀(γ:Gh) (w:World) (cargs:Array Value),IA γ h w->(∀g cs,C.IF g=zz cs->Dr γ cs g 0)->Bt γ args cargs.toList->
   Calls C.P (Fq f) cargs w λe w'=>match e with
    | .returned v=>∃a,IA a h' w'/\M7 γ w a w'/\B3 a r v/\(C.KG f=zp->∃s c,Kk a w.heap.size w' s c v r)
    |_=>False
def Dp.aIA(u:Dp C γ0 w0 γ Z U h a w){h':Ak}{r:Ad}{v:Value}(hi:IA γ' h' w')(t:M7 γ w γ' w')(x:B3 γ' r v){BD:Bool}(y:BD=zp->∃s c,Kk γ' w.heap.size w' s c v r)(d:Option Nat):
  ∃f,Dp C γ0 w0 f Z (U.put d (if BD then .BD r else .val r)) h' (a.put d v) w':=by
 cases BD with
 |false=>exact⟨γ',(u.Kz hi t).put λ_ _=>x⟩
 |true=>
  let⟨s,c,j⟩:=y rfl;obtain j|⟨g,n,cap,us,e,z,AH,rfl,D,m,l,k⟩:=j
  .exact⟨γ',(u.Kz hi t).put λ_ _=>⟨x,yk j⟩⟩
  .have i:M7 γ w (γ'.GW g (.tail (zy U) zx (n*z))) w':=⟨t.le.trans (IG _ _ _),t.size,t.os,t.tape,t.output,λb B A=>by let⟨p,q⟩:=t.Qt b B A;exact⟨p,by simp[Gh.GW,Aa (Ab:b≠g)];exact q⟩⟩
   exact (u.Kz (hi.GW m) i).bS (B3.mono (IG _ _ _) _ _ x) (xp ⟨g,n,cap,us,e,z,AH,rfl,D,by simp[Gh.GW],BC u.Ex.size l,k⟩) d
def JD{P:Program}{f:FuncId}{fn:Func}{c:Code}(e:P.funcs[f]?=zz fn)(b:(fn.name== "runtime.NumGoroutine")=zr)(h:fn.body=zz c)(args:Array Value)(w:World):
  (callFunc f args).run P w= y5 (.enter f args) w:=by
 have d:=zv b
 simp[callFunc,e,d,h]
def VA{o:Oper}{f:FuncId}{cargs:Array Value}{K:Act->World->Prop}{Q:Exit->Act->World->Prop}(c:(execOp a.eval o).run C.P w= y5 (.enter f cargs) w){R:Value->World->Prop}
  (d:Calls C.P f cargs w λe w'=>match e with| .returned v=>R v w'|_=>False) (b:∀v w',R v w'->K (a.put o.dst v) w'):o.wp C.P a w K Q:=by
 rw[Oper.wp];rw[c];refine d.mono λe w' h=>?_;cases e with
 |returned v=>exact b v w' h
 |_=>exact h.elim
def Ř{m:IT->Ak->Option LI}(g:F9 C m){o:Oper}{c:Call}{f:FuncId}{args:List Ad}{r:Ad}{h':Ak}{K:Act->World->Prop}{Q:Exit->Act->World->Prop}(s:o.op= .call c)(p:c.callee= .value (.func (Fq f)))(x:BI C U c.args.toList=zz args)
  (D:m (Cf C f args) h=zz (.ret,[r],h')) (n:Dp C γ0 w0 γ Z U h a w) (i:∀l v w',Dp C γ0 w0 l Z (U.put o.dst (if C.KG f then .BD r else .val r)) h' (a.put o.dst v) w'->K (a.put o.dst v) w'):o.wp C.P a w K Q:=by
 let⟨⟨fn,j,t,k,u⟩,d⟩:=g.2 f args h r h' D;have b:Bt γ args (c.args.map a.eval).toList:=zv (Ez n x)
 refine VA ?_ (d γ w _ n.ED n.IF b) λv w' ⟨l,hi,A,q,B⟩=>?_;.have y:a.eval (.func (Fq f))= .func (.func (Fq f)) #[] #[]:=rfl;simp[execOp,s,resolve,p,xc,y,yv,x9,zg,invoke];exact zv (JD t k u (c.args.map a.eval) w)
 .let⟨e,z⟩:=n.aIA hi A q B o.dst;exact i e v w' z
def aDb{run:IT->Ak->Option LI}(M:F9 C run){o:Oper}{c:Call}{f:FuncId}{s i x:Operand}{args:List Ad}{r:Ad}{h':Ak}{K:Act->World->Prop}{Q:Exit->Act->World->Prop}(ho:o.op= .call c)(hcl:c.callee= .value (.func f))(hf:C.Mf f=zp)(FD:c.args.toList=[s,i,x])(GQ:M4 C U x=zp)
  (ha:BI C U [s,i,x]=zz args) (hp:S8 h args=zz (h',r)) (hr:Dp C γ0 w0 γ Z U h a w) (N:∀γ' v w',Dp C γ0 w0 γ' Z (U.put o.dst (.val r)) h' (a.put o.dst v) w'->K (a.put o.dst v) w'):o.wp C.P a w K Q:=by
 obtain⟨⟨fn,cd,F,hname,hb⟩,aDd⟩:=M.1.2 f hf;have jl:=Ez hr ha;obtain⟨t,d,f1,g1,f2⟩:∃t d,[a.eval s,a.eval i,a.eval x]=t::d/\B3 γ (args.getD 0 .nilIface) t/\True:=by
  cases args with
  |nil=>cases jl
  |cons y l=>obtain⟨u,us,e,p,q⟩:=jl;exact⟨u,us,e,p,trivial⟩
 obtain⟨s',i',x',he,k,G,E⟩:∃s' i' x',args=[s',.int .i64 i',.sl 1 [[.int .i64 x']]]/\∃(k:B3 γ s' (a.eval s)) (G:a.eval i= .int .i64 i'),B3 γ (.sl 1 [[.int .i64 x']]) (a.eval x):=by
  unfold S8 at hp;split at hp;.obtain⟨_,_,_,e,D,B,A⟩:=jl.Ya;simp only[Bn,C1,FU,OD] at e;obtain⟨rfl,rfl,rfl⟩:=e;exact⟨_,_,_,rfl,D,B,A⟩
  .obtain⟨_,_,_,e,D,B,A⟩:=jl.Ya;simp only[Bn,C1,FU,OD] at e;obtain⟨rfl,rfl,rfl⟩:=e;exact⟨_,_,_,rfl,D,B,A⟩
  .cases hp
 subst he;have gh:FV C U x=zz (.sl 1 [[.int .i64 x']]):=by simp only[BI] at ha;cases h1:FV C U s<;>cases h2:FV C U i<;>cases I:FV C U x<;>simp_all
 obtain⟨sl,gj⟩:∃sl,EN C U x=zz sl:=by
  unfold M4 at GQ;cases hs:EN C U x with
  |none=>rw[hs] at GQ;cases GQ
  |some sl=>exact⟨sl,rfl⟩
 have aSl:∃v,sl= .BD v:=by unfold M4 at GQ;rw[gj] at GQ;cases sl<;>first|exact⟨_,rfl⟩|cases GQ
 obtain⟨v,rfl⟩:=aSl;obtain⟨s0,hrel,_⟩:=HD hr gj;have aSm:v= .sl 1 [[.int .i64 x']]:=by simp only[FV,gj,CR,Fb.Jt,BN] at gh;exact gh
 subst aSm;obtain⟨u_,j⟩:=hrel;rcases j with(j|⟨_,j⟩)|⟨g,n,cap,us,e,z,AH,h1,h2,I,W,H,R,O,V,T⟩
 .cases j
 .cases j
 .cases h1;obtain⟨ad,L,J,Y,X,S⟩:=E;rw[h2] at J;cases J;obtain⟨_,hm,_⟩:=S;obtain⟨⟨u,hu,hru⟩,_⟩:=hm;obtain⟨Lu,_,_⟩:=hr.ED.JJ _ _ _ hu;have kE:us[0]?=some (.int .i64 x'):=by rw[cell_of_row w _ _ us e (0,0) H] at Lu;rw[Lu];exact Cx some hru
  have b:c.args.map a.eval=#[a.eval s,.int .i64 i',.slice (some ⟨g,0,none⟩) 1 cap]:=by apply IV;simp only[Pr,FD,Bn,C1,G,h2];rfl
  have Zw:=aDd γ h w s' _ i' x' h' r g cap us e hr.ED k hp H kE (λid Jo=>by rw[I] at Jo;cases Jo) O (by rw[R,GP]);rw[<-b] at Zw;refine VA (f:=f) (cargs:=c.args.map a.eval) ?_ Zw λv w' ⟨γ',hi,LQ,hv⟩=>?_;.have h0:a.eval (.func f)= .func (.func f) #[] #[]:=rfl;simp only[execOp,ho,resolve,hcl,Deferred.ofValue,h0,Sem.run_bind,Sem.run_pure,Result.andThen_ok,invoke];simpa using JD F hname hb (c.args.map a.eval) w
  .obtain⟨m,Na⟩:=hr.aIA (BD:=false) hi LQ hv (λe=>by cases e) o.dst;exact N m v w' (by simpa using Na)
def Gh.apart(γ:Gh):Gh:={JJ:=γ.JJ,mu:=λ_=>zx,BD:=λb=>match γ.BD b with|zz (.Oa _)=>zx|x=>x,sz:=γ.sz}
def IA.apart(hi:IA γ h w):IA γ.apart [] w:=by
 refine⟨λb o v d=>?_,λid x a=>by simp at a,λid cs a=>by simp at a,λid es a=>by simp at a,λid b d=>(by cases d),λb x a=>?_,λb n d=>?_⟩;rotate_left 2;.let⟨p,r⟩:=hi.sz b n d;refine⟨p,yk ?_⟩;simp[Gh.apart];obtain r|⟨_,r⟩:=r<;>rw[r]
 .let⟨p,q,r⟩:=hi.JJ b o v d;refine⟨p,q,?_⟩;simp[Gh.apart];obtain r|⟨s,c,st,r,f⟩:=r
  .exact yk (by rw[r])
  .exact xp ⟨s,c,st,by rw[r],f⟩
 .simp only[Gh.apart] at a;split at a;.cases a
  .exact hi.BD b x a
def Dp.aDe(i:Dp C γ0 w0 γ Z U h a w){c:Gh}{h1:Ak}(hi:IA c h1 w')(k:M7 γ.apart w c w'):∃d,Dp C γ0 w0 d Z U h a w':=by
 have y:∀b id,γ.apart.BD b≠zz (.Oa id):=λb id e=>by
  simp[Gh.apart] at e;split at e;.cases e
  next u=>exact u id e
 have l:∀b,b<w.heap.size->w'.heap[b]?=w.heap[b]?:=λb f=>(k.Qt b f (y b)).1;refine⟨γ,i.Kz ⟨λb o v f=>?_,i.ED.Oa,λid cs m b f=>?_,λid es m b f=>?_,i.ED.mu,λb x t=>KK (i.ED.BD b x t) k.size,λb n f=>(by
   let⟨⟨us,e,s,p,q⟩,r⟩:=i.ED.sz b n f;exact⟨⟨us,e,s,by rwa[l b (Bf.1 p).1],q⟩,r⟩)⟩
  ⟨.refl _,k.size,k.os,k.tape,k.output,λb f _=>⟨l b f,rfl⟩⟩⟩
 .let⟨p,q,r⟩:=i.ED.JJ b o v f;exact⟨by rwa[C9 (l b (Ek p))],q,r⟩
 .let⟨us,e,s,p,q⟩:=i.ED.cells id cs m b f;exact⟨us,e,s,by rwa[l b (Bf.1 p).1],q⟩
 .let⟨z,j,p,q⟩:=i.ED.map id es m b f;exact⟨z,j,by rwa[l b (Bf.1 p).1],q⟩
def bY{γ a:Gh}{x:Ad}{v:Value}(c:x.OJ=zp)(b:B3 γ x v):B3 a x v:=by cases x<;>first|exact b|cases c
def kR{γ a:Gh}:∀{l:List Ad} {us:List Value},l.all Ad.OJ=zp->Bt γ l us->Bt a l us
 |[],us,_,h=>h
 |x::l,us,b,h=>by let⟨u,d,e,h1,c⟩:=h;simp only[nC,Bs] at b;exact⟨u,d,e,bY b.1 h1,kR b.2 c⟩
def Dr.apart{γ:Gh}:∀{l:List Ad} {b o:Nat},Dr γ l b o->l.all Ad.OJ=zp->Dr γ.apart l b o
 |[],_,_,_,_=>trivial
 |x::l,b,o,h,a=>by let⟨⟨u,h1,d⟩,c⟩:=h;simp only[nC,Bs] at a;exact⟨⟨u,h1,bY a.1 d⟩,c.apart a.2⟩
def X_{m:IT->Ak->Option LI}(i:F9 C m){o:Oper}{c:Call}{f:FuncId}{args:List Ad}{r:Ad}{h1:Ak}{K:Act->World->Prop}{Q:Exit->Act->World->Prop}(x:o.op= .call c)(q:c.callee= .value (.func (Fq f)))(A:BI C U c.args.toList=zz args)
  (p:args.all Ad.OJ=zp) (F:m (Cf C f args) []=zz (.ret,[r],h1)) (t:r.OJ=zp) (n:Dp C γ0 w0 γ Z U h a w) (j:∀l v w',Dp C γ0 w0 l Z (U.put o.dst (.val r)) h (a.put o.dst v) w'->K (a.put o.dst v) w'):o.wp C.P a w K Q:=by
 let⟨⟨fn,k,y,b,z⟩,d⟩:=i.2 f args [] r h1 F;refine VA ?_ (d γ.apart w _ n.ED.apart (λg cs s=>(n.IF g cs s).apart (i.1.1 g cs s)) (kR p (zv (Ez n A)):Bt γ.apart args (c.args.map a.eval).toList)) λv w' ⟨l,hi,E,u,_⟩=>?_;.have B:a.eval (.func (Fq f))= .func (.func (Fq f)) #[] #[]:=rfl;simp[execOp,x,resolve,q,xc,B,yv,x9,zg,invoke];exact zv (JD y b z (c.args.map a.eval) w)
 .let⟨e,D⟩:=n.aDe hi E;exact j e v w' (D.put λ_ _=>bY t u)
def Y_{u:IT->Ak->Option LI}(l:F9 C u){o:Oper}{c:Call}{g:Operand}{k:Ad}{f:FuncId}{args j:List Ad}{r:Ad}{h':Ak}{K:Act->World->Prop}{Q:Exit->Act->World->Prop}(B:o.op= .call c)(y:c.callee= .value g)(D:FV C U g=zz k)
  (F:BI C U c.args.toList=zz args) (s:C6 k args=zz (f,j)) (O:u (Cf C f j) h=zz (.ret,[r],h')) (x:Dp C γ0 w0 γ Z U h a w) (m:∀t v w',Dp C γ0 w0 t Z (U.put o.dst (.val r)) h' (a.put o.dst v) w'->K (a.put o.dst v) w'):o.wp C.P a w K Q:=by
 let⟨⟨fn,n,z,q,E⟩,b⟩:=l.2 f j h r h' O;unfold C6 at s;split at s
 next f0 first p=>
  split at s;rotate_left;.cases s
  rename_i H;cases s;rw[show Fq f=f from Ae H] at z b;let⟨J,cs,N,h1,G⟩:=(H5 x D);have d:Bt γ (first++args++p) (J++c.args.map a.eval++cs).toList:=by simpa using(h1.append (Ez x F)).append G
  refine VA ?_ (b γ w _ x.ED x.IF d) λv w' ⟨t,hi,M,A,GQ⟩=>?_;.simp only[execOp,B,resolve,y,xc,N,yv,x9,zg,invoke];exact JD z q E _ w
  .let⟨i,L⟩:=x.aIA (BD:=zr) hi M A (λe=>by cases e) o.dst;exact m i v w' (zv L)
 .cases s
end
end Go.Am
end
