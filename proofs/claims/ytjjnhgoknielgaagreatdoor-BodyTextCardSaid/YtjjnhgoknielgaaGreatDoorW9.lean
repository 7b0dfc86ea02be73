/- Lemmas -/
import Derived.Test.YtjjnhgoknielgaaGreatDoorW8
import Derived.Test.YtjjnhgoknielgaaGreatDoorProg
import Derived.KernelRfl
set_option linter.all false
def _root_.AT{p:Prop}(h:p:=by kernel_rfl):p:=h
namespace Go.Am
def aJj:FuncId->Nat->List (Nat×Sh)
 |3,4=>[(2,.val),(3,.val)]
 |4,7=>[(3,.BU),(4,.BU),(5,.val),(6,.val)]
 |5,2=>[(4,.val),(5,.val)]
 |7,5=>[(2,.val),(3,.val),(5,.val)]
 |8,5=>[(6,.BU),(7,.BU),(9,.val)]
 |14,3=>[(3,.BU),(4,.val)]
 |20,3=>[(4,.val),(6,.val)]
 |25,4=>[(4,.val),(11,.val)]
 |28,2=>[(2,.val),(3,.val)]
 |43,18=>[(3,.val),(79,.val)]
 |67,8=>[(2,.val),(26,.val)]
 |84,5=>[(2,.val)]
 |84,2=>[(2,.val)]
 |86,2=>[(4,.val)]
 |92,3=>[(2,.val)]
 |111,2=>[(4,.val),(8,.val)]
 |128,1=>[(11,.val)]
 |141,5=>[(3,.val)]
 |157,5=>[(27,.val)]
 |168,2=>[(7,.val)]
 |172,2=>[(3,.val)]
 |173,2=>[(6,.val),(7,.val),(13,.val)]
 |188,3=>[(10,.val)]
 |189,2=>[(4,.val),(8,.val)]
 |195,2=>[(4,.val),(5,.val)]
 |205,2=>[(2,.val),(8,.val)]
 |209,4=>[(6,.val),(26,.val)]
 |212,4=>[(4,.val),(5,.val)]
 |215,4=>[(4,.val),(5,.val)]
 |216,25=>[(150,.val)]
 |224,2=>[(4,.val),(5,.val)]
 |227,28=>[(12,.val)]
 |227,20=>[(8,.val)]
 |227,15=>[(61,.val)]
 |227,6=>[(2,.val),(4,.val),(5,.val)]
 |232,2=>[(3,.val),(8,.val)]
 |235,2=>[(4,.val),(8,.val)]
 |239,2=>[(4,.val),(8,.val)]
 |240,27=>[(12,.val)]
 |240,21=>[(10,.val),(11,.val),(12,.val)]
 |240,18=>[(12,.val)]
 |240,5=>[(3,.val),(4,.val),(5,.val),(6,.val)]
 |241,4=>[(6,.BU),(27,.val)]
 |246,5=>[(4,.val),(5,.val),(6,.val)]
 |252,3=>[(4,.val),(6,.val)]
 |253,2=>[(8,.val),(9,.val)]
 |271,16=>[(49,.val)]
 |271,4=>[(5,.BU),(6,.val)]
 |274,2=>[(4,.val),(10,.val)]
 |275,3=>[(2,.val),(3,.val),(4,.BU),(9,.val)]
 |276,2=>[(2,.val),(7,.val)]
 |279,2=>[(4,.val),(8,.val)]
 |316,2=>[(4,.val),(8,.val)]
 |350,24=>[(13,.val),(14,.val)]
 |350,5=>[(5,.val),(6,.val),(32,.val)]
 |350,13=>[(5,.val),(6,.val),(10,.val)]
 |_,_=>[]
def aJk:FuncId->Nat->yL
 |30,2=> .heap
 |31,23=> .heap
 |51,15=> .heap
 |98,11=> .heap
 |177,5=> .heap
 |216,36=> .heap
 |227,6=> .heap
 |227,11=> .heap
 |_,_=> .Qt
def aEl:FuncId->Nat->Option (List (Nat×Sh))
 |62,48=>some []
 |62,14=>some [(2,.val),(6,.val)]
 |66,103=>some [(12,.val)]
 |72,83=>some []
 |72,44=>some []
 |72,35=>some [(7,.val)]
 |103,46=>some [(4,.val),(5,.val)]
 |103,12=>some [(1,.val),(4,.val),(5,.val)]
 |141,16=>some [(2,.val)]
 |193,32=>some [(9,.val)]
 |241,67=>some [(9,.box 3 [])]
 |241,43=>some [(9,.box 3 [])]
 |241,36=>some [(9,.box 3 [])]
 |246,37=>some []
 |246,32=>some [(4,.val),(5,.val)]
 |246,11=>some []
 |253,104=>some []
 |253,39=>some [(11,.val)]
 |_,_=>none
def aEm:FuncId->Nat->Option (List (Nat×Sh))
 |62,5=>some [(35,.val)]
 |66,12=>some [(74,.val)]
 |66,7=>some [(35,.val)]
 |66,4=>some [(28,.val)]
 |72,3=>some [(30,.val)]
 |103,9=>some [(46,.val)]
 |141,10=>some [(53,.val)]
 |141,8=>some [(37,.val)]
 |173,16=>some [(59,.val)]
 |173,9=>some [(32,.val)]
 |193,1=>some [(23,.val)]
 |241,12=>some [(67,.val)]
 |241,9=>some [(43,.val)]
 |253,7=>some [(39,.val)]
 |_,_=>none
def aNR:FuncId->Bool
 |78=>true
 |_=>false
def aJl:FuncId->Nat->Bool
 |38,13=>true
 |87,14=>true
 |118,12=>true
 |152,7=>true
 |185,26=>true
 |185,31=>true
 |188,7=>true
 |194,10=>true
 |194,24=>true
 |194,49=>true
 |194,77=>true
 |209,41=>true
 |227,124=>true
 |283,26=>true
 |283,31=>true
 |301,7=>true
 |100035,7=>true
 |200078,5=>true
 |200078,7=>true
 |_,_=>false
def aJm:FuncId->Nat->Bool
 |23,7=>true
 |35,7=>true
 |_,_=>false
def aAy:FuncId->Bool
 |240=>true
 |271=>true
 |_=>false
def aAz:FuncId->List (Nat×Nat)
 |84=>[(0,3)]
 |87=>[(0,6)]
 |251=>[(1,3)]
 |284=>[(0,0)]
 |285=>[(0,0)]
 |_=>[]
def aCY:FuncId->Option (List Ab->IT)
 |29=>some (zK 43)
 |99=>some (Yr 176 350 278)
 |109=>some OJ
 |_=>none
def aEc:FuncId->FuncId->FuncId
 |26,35=>100035
 |87,91=>100091
 |100091,78=>200078
 |_,f=>f
def aJn:FuncId->Bool
 |112=>true
 |_=>false
def aJo:FuncId->Bool
 |6=>true
 |10=>true
 |11=>true
 |21=>true
 |42=>true
 |56=>true
 |59=>true
 |60=>true
 |96=>true
 |100=>true
 |101=>true
 |113=>true
 |116=>true
 |167=>true
 |177=>true
 |188=>true
 |198=>true
 |203=>true
 |220=>true
 |222=>true
 |228=>true
 |229=>true
 |238=>true
 |242=>true
 |265=>true
 |266=>true
 |267=>true
 |268=>true
 |269=>true
 |272=>true
 |273=>true
 |274=>true
 |291=>true
 |294=>true
 |295=>true
 |313=>true
 |352=>true
 |353=>true
 |355=>true
 |356=>true
 |357=>true
 |359=>true
 |360=>true
 |_=>false
def OK:List Int:=(List.range 256).map λi=>if(9<=i/\i<=13)\/i=32 then 1 else 0
def HE:List Ab:=OK.map λn=> .int .u8 n
def oK:Nat->Option (List Ab)
 |2=>some HE
 |_=>none
noncomputable def cx:Gw:={P:=Proofs.Tryz.prog,aDP:=λf=>aJj (Fl f),aCz:=λf=>aEl (Fl f),aCA:=λf=>aEm (Fl f),kind:=λf=>aJk (Fl f),KK:=aNR,aCB:=aJo,o_:=aJl,aIM:=aJm,yf:=aAy,yg:=aAz,HO:=oK,aDQ:=aCY,alt:=aEc,Mw:=aJn}
end Go.Am
