/- Lemmas -/
import Derived.Test.YtglbboamemndeaaGreatDoorS8
import Derived.Test.YtglbboamemndeaaGreatDoorProg
import Derived.KernelRfl
set_option linter.all false
def _root_.C4{p:Prop}(h:p:=by kernel_rfl):p:=h
namespace Go.Am
def aCi:FuncId->Nat->List (Nat×Sh)
 |3,7=>[(6,.val),(8,.val)]
 |6,5=>[(6,.val)]
 |11,11=>[(2,.val),(6,.val)]
 |11,3=>[(2,.val),(4,.val)]
 |12,5=>[(3,.BI),(12,.val)]
 |13,2=>[(4,.val),(5,.val)]
 |21,2=>[(2,.val),(3,.val)]
 |35,2=>[(2,.val),(3,.val)]
 |36,7=>[(5,.val),(6,.val)]
 |36,3=>[(3,.BI),(4,.val)]
 |37,6=>[(4,.val),(6,.val)]
 |39,3=>[(4,.val),(5,.val),(6,.val)]
 |41,5=>[(2,.val),(3,.val),(5,.val)]
 |55,5=>[(2,.val)]
 |55,2=>[(2,.val)]
 |56,2=>[(4,.val)]
 |57,5=>[(27,.val)]
 |58,3=>[(2,.val)]
 |59,4=>[(6,.val),(26,.val)]
 |75,8=>[(2,.val),(26,.val)]
 |91,2=>[(4,.val),(5,.val)]
 |96,3=>[(4,.val),(6,.val)]
 |110,5=>[(4,.val),(5,.val),(6,.val)]
 |113,2=>[(4,.val),(8,.val)]
 |126,4=>[(4,.val),(5,.val)]
 |127,25=>[(150,.val)]
 |128,2=>[(6,.val),(7,.val),(13,.val)]
 |136,2=>[(3,.val)]
 |137,2=>[(7,.val)]
 |141,4=>[(6,.BI),(27,.val)]
 |148,4=>[(4,.val),(11,.val)]
 |157,1=>[(11,.val)]
 |170,5=>[(3,.val)]
 |190,18=>[(3,.val),(79,.val)]
 |196,2=>[(4,.val),(8,.val)]
 |208,2=>[(4,.val),(5,.val)]
 |212,4=>[(4,.val),(5,.val)]
 |215,3=>[(4,.val),(6,.val)]
 |216,2=>[(8,.val),(9,.val)]
 |220,2=>[(4,.val),(5,.val)]
 |221,3=>[(2,.val),(3,.val),(4,.BI),(9,.val)]
 |226,2=>[(4,.val),(10,.val)]
 |227,2=>[(2,.val),(7,.val)]
 |236,3=>[(10,.val)]
 |237,2=>[(4,.val),(8,.val)]
 |242,2=>[(2,.val),(8,.val)]
 |256,2=>[(4,.val),(8,.val)]
 |257,2=>[(4,.val),(8,.val)]
 |269,27=>[(12,.val)]
 |269,21=>[(10,.val),(11,.val),(12,.val)]
 |269,18=>[(12,.val)]
 |269,5=>[(3,.val),(4,.val),(5,.val),(6,.val)]
 |270,2=>[(3,.val),(8,.val)]
 |283,2=>[(4,.val),(8,.val)]
 |288,16=>[(49,.val)]
 |288,4=>[(5,.BI),(6,.val)]
 |298,28=>[(12,.val)]
 |298,20=>[(8,.val)]
 |298,15=>[(61,.val)]
 |298,6=>[(2,.val),(4,.val),(5,.val)]
 |367,24=>[(13,.val),(14,.val)]
 |367,5=>[(5,.val),(6,.val),(32,.val)]
 |367,13=>[(5,.val),(6,.val),(10,.val)]
 |_,_=>[]
def aCj:FuncId->Nat->vL
 |11,11=> .heap
 |30,15=> .heap
 |43,2=> .heap
 |46,23=> .heap
 |127,36=> .heap
 |280,11=> .heap
 |294,5=> .heap
 |298,6=> .heap
 |298,11=> .heap
 |_,_=> .O3
def ķ:FuncId->Nat->Option (List (Nat×Sh))
 |51,83=>some []
 |51,44=>some []
 |51,35=>some [(7,.val)]
 |52,48=>some []
 |52,14=>some [(2,.val),(6,.val)]
 |67,32=>some [(9,.val)]
 |74,103=>some [(12,.val)]
 |110,37=>some []
 |110,32=>some [(4,.val),(5,.val)]
 |110,11=>some []
 |111,46=>some [(4,.val),(5,.val)]
 |111,12=>some [(1,.val),(4,.val),(5,.val)]
 |141,67=>some [(9,.box 3 [])]
 |141,43=>some [(9,.box 3 [])]
 |141,36=>some [(9,.box 3 [])]
 |170,16=>some [(2,.val)]
 |216,104=>some []
 |216,39=>some [(11,.val)]
 |_,_=>none
def ĸ:FuncId->Nat->Option (List (Nat×Sh))
 |33,12=>some [(2,.val)]
 |33,10=>some [(81,.val)]
 |33,8=>some [(68,.val)]
 |33,6=>some [(55,.val)]
 |33,4=>some [(32,.val)]
 |33,2=>some [(14,.val)]
 |51,3=>some [(30,.val)]
 |52,5=>some [(35,.val)]
 |67,1=>some [(23,.val)]
 |74,12=>some [(74,.val)]
 |74,7=>some [(35,.val)]
 |74,4=>some [(28,.val)]
 |111,9=>some [(46,.val)]
 |128,16=>some [(59,.val)]
 |128,9=>some [(32,.val)]
 |141,12=>some [(67,.val)]
 |141,9=>some [(43,.val)]
 |170,10=>some [(53,.val)]
 |170,8=>some [(37,.val)]
 |216,7=>some [(39,.val)]
 |_,_=>none
def aG1:FuncId->Bool
 |81=>true
 |_=>false
def aCk:FuncId->Nat->Bool
 |11,9=>true
 |59,41=>true
 |81,5=>true
 |86,14=>true
 |101,13=>true
 |114,12=>true
 |121,7=>true
 |203,10=>true
 |203,24=>true
 |203,49=>true
 |203,77=>true
 |233,26=>true
 |233,31=>true
 |236,7=>true
 |264,26=>true
 |264,31=>true
 |287,7=>true
 |298,124=>true
 |100094,7=>true
 |200081,5=>true
 |200081,7=>true
 |_,_=>false
def aCl:FuncId->Nat->Bool
 |93,7=>true
 |94,7=>true
 |_,_=>false
def xt:FuncId->Bool
 |269=>true
 |288=>true
 |_=>false
def xw:FuncId->List (Nat×Nat)
 |55=>[(0,3)]
 |86=>[(0,6)]
 |213=>[(1,3)]
 |266=>[(0,0)]
 |267=>[(0,0)]
 |_=>[]
def ã:FuncId->Option (List Aa->IT)
 |42=>some (wL 190)
 |149=>some Nl
 |281=>some (WN 293 367 335)
 |_=>none
def İ:FuncId->FuncId->FuncId
 |40,94=>100094
 |86,88=>100088
 |100088,81=>200081
 |_,f=>f
def aCm:FuncId->Bool
 |151=>true
 |_=>false
def aCn:FuncId->Bool
 |5=>true
 |34=>true
 |97=>true
 |124=>true
 |142=>true
 |145=>true
 |152=>true
 |155=>true
 |189=>true
 |207=>true
 |211=>true
 |224=>true
 |225=>true
 |226=>true
 |236=>true
 |241=>true
 |251=>true
 |254=>true
 |255=>true
 |274=>true
 |278=>true
 |282=>true
 |289=>true
 |294=>true
 |299=>true
 |300=>true
 |311=>true
 |312=>true
 |313=>true
 |314=>true
 |315=>true
 |319=>true
 |322=>true
 |323=>true
 |332=>true
 |369=>true
 |370=>true
 |372=>true
 |373=>true
 |374=>true
 |376=>true
 |377=>true
 |_=>false
def Nn:List Int:=(List.range 256).map λi=>if(9<=i/\i<=13)\/i=32 then 1 else 0
def GG:List Aa:=Nn.map λn=> .int .u8 n
def lZ:Nat->Option (List Aa)
 |0=>some GG
 |_=>none
noncomputable def cx:Fx:={P:=Proofs.Tryz.prog,ę:=λf=>aCi (EO f),É:=λf=>ķ (EO f),Ê:=λf=>ĸ (EO f),kind:=λf=>aCj (EO f),JA:=aG1,Ë:=aCn,zE:=aCk,aBL:=aCl,g_:=xt,h_:=xw,GN:=lZ,Ě:=ã,alt:=İ,MN:=aCm}
end Go.Am
