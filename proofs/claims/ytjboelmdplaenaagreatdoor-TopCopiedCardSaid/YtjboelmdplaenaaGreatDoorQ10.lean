/- Lemmas -/
import Derived.Test.YtjboelmdplaenaaGreatDoorQ9
import Derived.Test.YtjboelmdplaenaaGreatDoorProg
set_option linter.unusedVariables false
set_option linter.unusedSimpArgs false
namespace Go.Am
def hLive:FuncId→Nat→List (Nat×Sh)
 |4,3=>[(5,.val),(6,.val)]
 |6,3=>[(4,.val)]
 |11,5=>[(19,.val)]
 |13,9=>[(8,.val),(94,.val)]
 |15,11=>[(2,.val),(6,.val)]
 |15,3=>[(2,.val),(4,.val)]
 |16,5=>[(3,.own),(12,.val)]
 |17,2=>[(4,.val),(5,.val)]
 |23,4=>[(4,.val),(11,.val)]
 |27,4=>[(6,.val),(15,.val)]
 |29,27=>[(134,.val)]
 |29,21=>[(116,.val)]
 |34,7=>[(48,.val)]
 |38,2=>[(2,.val),(3,.val)]
 |39,7=>[(5,.val),(6,.val)]
 |39,3=>[(3,.own),(4,.val)]
 |40,6=>[(4,.val),(6,.val)]
 |42,3=>[(4,.val),(5,.val),(6,.val)]
 |45,3=>[(2,.val),(3,.val),(4,.own),(9,.val)]
 |46,2=>[(2,.val),(7,.val)]
 |50,3=>[(10,.val)]
 |53,1=>[(10,.val)]
 |64,10=>[(30,.val)]
 |75,4=>[(4,.val),(13,.val)]
 |78,18=>[(3,.val),(79,.val)]
 |82,2=>[(4,.val),(5,.val)]
 |84,2=>[(2,.val),(3,.val)]
 |88,2=>[(4,.val),(8,.val)]
 |96,2=>[(18,.val)]
 |101,2=>[(4,.val),(8,.val)]
 |103,2=>[(2,.val),(7,.val)]
 |110,4=>[(16,.val)]
 |121,2=>[(4,.val),(8,.val)]
 |126,2=>[(3,.val),(8,.val)]
 |139,2=>[(6,.val),(13,.val)]
 |157,5=>[(2,.val),(3,.val),(19,.val)]
 |163,1=>[(2,.val),(3,.val)]
 |168,28=>[(12,.val)]
 |168,20=>[(8,.val)]
 |168,15=>[(61,.val)]
 |168,6=>[(2,.val),(4,.val),(5,.val)]
 |171,1=>[(1,.val),(4,.val)]
 |172,11=>[(1,.val),(13,.val)]
 |172,18=>[(1,.val),(13,.val)]
 |173,3=>[(2,.own),(3,.own),(4,.val),(13,.val)]
 |180,26=>[(12,.val)]
 |180,17=>[(9,.val),(58,.val)]
 |180,11=>[(41,.val)]
 |180,7=>[(6,.val)]
 |180,3=>[(4,.val)]
 |186,2=>[(4,.val),(8,.val)]
 |191,20=>[(9,.val)]
 |191,14=>[(7,.val),(8,.val)]
 |191,9=>[(6,.val)]
 |191,4=>[(20,.val)]
 |192,6=>[(10,.val)]
 |199,5=>[(2,.val),(3,.val),(4,.val),(5,.val),(6,.val)]
 |202,4=>[(4,.val)]
 |203,1=>[(4,.val)]
 |229,3=>[(6,.val),(7,.val)]
 |230,3=>[(6,.val),(7,.val),(9,.val)]
 |231,4=>[(5,.val),(6,.val)]
 |231,2=>[(4,.val),(5,.val)]
 |233,5=>[(6,.val),(7,.val),(9,.val),(11,.val),(12,.val)]
 |235,4=>[(1,.val),(6,.val),(7,.val),(8,.val),(9,.val),(10,.val),(11,.val)]
 |236,3=>[(5,.val),(6,.val)]
 |237,4=>[(6,.val),(7,.val),(9,.val),(10,.val)]
 |238,24=>[(13,.val),(14,.val)]
 |238,5=>[(5,.val),(6,.val),(32,.val)]
 |238,13=>[(5,.val),(6,.val),(10,.val)]
 |239,4=>[(6,.val),(7,.val),(9,.val),(10,.val)]
 |240,6=>[(0,.val),(4,.val),(5,.val)]
 |241,2=>[(2,.val)]
 |244,15=>[(4,.val),(8,.val),(10,.val)]
 |247,11=>[(4,.val),(8,.val),(10,.val)]
 |247,5=>[(8,.val),(9,.val)]
 |248,8=>[(6,.val),(7,.val),(8,.val)]
 |248,3=>[(4,.val),(5,.val)]
 |_,_=>[]
def hKind:FuncId→Nat→BoxKind
 |8,2=> .heap
 |11,13=> .heap
 |14,5=> .heap
 |15,11=> .heap
 |77,9=> .heap
 |106,7=> .heap
 |110,4=> .heap
 |110,5=> .heap
 |145,11=> .heap
 |161,5=> .heap
 |168,6=> .heap
 |168,11=> .heap
 |172,12=> .heap
 |179,9=> .heap
 |180,13=> .heap
 |191,16=> .heap
 |192,100=> .heap
 |192,101=> .heap
 |192,163=> .heap
 |192,210=> .heap
 |192,230=> .heap
 |229,5=> .heap
 |232,5=> .heap
 |_,_=> .priv
def hJoins:FuncId→Nat→Option (List (Nat×Sh))
 |29,130=>some []
 |29,98=>some []
 |29,79=>some [(13,.val)]
 |29,69=>some [(13,.val)]
 |29,59=>some [(13,.val)]
 |29,45=>some [(13,.val)]
 |29,37=>some [(13,.val)]
 |29,30=>some [(1,.val),(13,.val)]
 |55,103=>some [(12,.val)]
 |_,_=>none
def hJoinR:FuncId→Nat→Option (List (Nat×Sh))
 |29,17=>some [(98,.val)]
 |36,12=>some [(2,.val)]
 |36,10=>some [(81,.val)]
 |36,8=>some [(68,.val)]
 |36,6=>some [(55,.val)]
 |36,4=>some [(32,.val)]
 |36,2=>some [(14,.val)]
 |55,12=>some [(74,.val)]
 |55,7=>some [(35,.val)]
 |55,4=>some [(28,.val)]
 |_,_=>none
def hOwn:FuncId→Bool
 |_=>false
def hObjs:FuncId→Nat→Bool
 |11,36=>true
 |15,9=>true
 |26,13=>true
 |50,7=>true
 |61,39=>true
 |76,14=>true
 |79,14=>true
 |109,26=>true
 |109,31=>true
 |131,26=>true
 |131,31=>true
 |168,124=>true
 |100068,7=>true
 |_,_=>false
def hSnap:FuncId→Nat→Bool
 |67,7=>true
 |68,7=>true
 |_,_=>false
def hFrzRet:FuncId→Bool
 |_=>false
def hFrzEnd:FuncId→List (Nat×Nat)
 |_=>[]
def hPrim:FuncId→Option (List AVal→IT)
 |14=>some (pDump 78)
 |30=>some pMapClone
 |64=>some (pNormalize 27 110)
 |99=>some pContains
 |105=>some (pAdopt 97 31 135)
 |146=>some (pReplace 160 238 222)
 |148=>some pIndexByte
 |240=>some pCount
 |_=>none
def hAlt:FuncId→FuncId→FuncId
 |11,25=>100025
 |25,68=>100068
 |_,f=>f
def hIns:FuncId→Bool
 |102=>true
 |_=>false
def hPure:FuncId→Bool
 |5=>true
 |37=>true
 |49=>true
 |50=>true
 |63=>true
 |77=>true
 |87=>true
 |92=>true
 |93=>true
 |107=>true
 |116=>true
 |119=>true
 |120=>true
 |123=>true
 |124=>true
 |127=>true
 |143=>true
 |147=>true
 |148=>true
 |161=>true
 |169=>true
 |170=>true
 |181=>true
 |182=>true
 |183=>true
 |184=>true
 |185=>true
 |190=>true
 |193=>true
 |194=>true
 |203=>true
 |240=>true
 |241=>true
 |243=>true
 |244=>true
 |246=>true
 |247=>true
 |_=>false
def hGlob:Nat→Option (List AVal):=λ_=>none
noncomputable def cx:Ctx:={P:=Proofs.Tryz.prog,live:=λf=>hLive (realOf f),joins:=λf=>hJoins (realOf f),joinR:=λf=>hJoinR (realOf f),kind:=λf=>hKind (realOf f),ownRet:=hOwn,pureF:=hPure,objs:=hObjs,snap:=hSnap,frzRet:=hFrzRet,frzEnd:=hFrzEnd,glob:=hGlob,prim:=hPrim,alt:=hAlt,ins:=hIns}
end Go.Am
