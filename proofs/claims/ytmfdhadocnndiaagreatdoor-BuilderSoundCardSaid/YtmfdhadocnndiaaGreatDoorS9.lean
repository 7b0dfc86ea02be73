/- Lemmas -/
import Derived.Test.YtmfdhadocnndiaaGreatDoorS8
import Derived.Test.YtmfdhadocnndiaaGreatDoorProg
import Derived.KernelRfl
set_option linter.all false
def _root_.AU{p:Prop}(h:p:=by kernel_rfl):p:=h
namespace Go.Am
def Ý:FuncId->Nat->List (Nat×Sh)
 |3,18=>[(4,.val),(10,.val)]
 |3,8=>[(4,.val),(6,.box 4 []),(7,.val)]
 |4,2=>[(4,.val),(5,.val)]
 |6,5=>[(11,.val)]
 |11,5=>[(3,.BB),(12,.val)]
 |12,12=>[(94,.val)]
 |12,5=>[(3,.box 13 []),(63,.val)]
 |13,13=>[(2,.val),(95,.val)]
 |13,3=>[(2,.val),(11,.val)]
 |14,11=>[(2,.val),(6,.val)]
 |14,3=>[(2,.val),(4,.val)]
 |15,2=>[(2,.val),(3,.val)]
 |20,5=>[(27,.val)]
 |22,4=>[(4,.val),(5,.val)]
 |32,5=>[(2,.val)]
 |32,2=>[(2,.val)]
 |33,2=>[(4,.val)]
 |34,3=>[(2,.val)]
 |35,4=>[(6,.val),(26,.val)]
 |51,14=>[(2,.val),(38,.val)]
 |51,6=>[(2,.val),(23,.val)]
 |51,3=>[(2,.val),(14,.val)]
 |55,2=>[(2,.val),(3,.val)]
 |56,7=>[(5,.val),(6,.val)]
 |56,3=>[(3,.BB),(4,.val)]
 |57,6=>[(4,.val),(6,.val)]
 |59,3=>[(4,.val),(5,.val),(6,.val)]
 |60,5=>[(4,.val),(5,.val),(6,.val)]
 |63,2=>[(4,.val),(8,.val)]
 |70,4=>[(4,.val),(5,.val)]
 |71,25=>[(150,.val)]
 |89,2=>[(6,.val),(7,.val),(13,.val)]
 |96,2=>[(3,.val)]
 |97,2=>[(7,.val)]
 |101,4=>[(6,.BB),(27,.val)]
 |106,2=>[(2,.val),(7,.val)]
 |107,3=>[(2,.val),(3,.val),(4,.BB),(9,.val)]
 |111,2=>[(4,.val),(5,.val)]
 |118,4=>[(4,.val),(11,.val)]
 |125,4=>[(4,.val),(5,.val)]
 |128,3=>[(4,.val),(6,.val)]
 |129,2=>[(8,.val),(9,.val)]
 |135,18=>[(3,.val),(79,.val)]
 |138,2=>[(4,.val),(8,.val)]
 |145,2=>[(4,.val),(5,.val)]
 |150,2=>[(4,.val),(5,.val)]
 |155,2=>[(4,.val),(10,.val)]
 |164,2=>[(4,.val),(8,.val)]
 |168,2=>[(4,.val),(8,.val)]
 |181,3=>[(10,.val)]
 |184,27=>[(12,.val)]
 |184,21=>[(10,.val),(11,.val),(12,.val)]
 |184,18=>[(12,.val)]
 |184,5=>[(3,.val),(4,.val),(5,.val),(6,.val)]
 |185,2=>[(4,.val),(8,.val)]
 |203,16=>[(49,.val)]
 |203,4=>[(5,.BB),(6,.val)]
 |216,28=>[(12,.val)]
 |216,20=>[(8,.val)]
 |216,15=>[(61,.val)]
 |216,6=>[(2,.val),(4,.val),(5,.val)]
 |286,24=>[(13,.val),(14,.val)]
 |286,5=>[(5,.val),(6,.val),(32,.val)]
 |286,13=>[(5,.val),(6,.val),(10,.val)]
 |_,_=>[]
def Þ:FuncId->Nat->gK
 |13,178=> .heap
 |14,11=> .heap
 |23,2=> .heap
 |26,23=> .heap
 |49,42=> .heap
 |71,36=> .heap
 |196,11=> .heap
 |210,5=> .heap
 |216,6=> .heap
 |216,11=> .heap
 |_,_=> .MY
def pc:FuncId->Nat->Option (List (Nat×Sh))
 |18,83=>some []
 |18,44=>some []
 |18,35=>some [(7,.val)]
 |29,48=>some []
 |29,14=>some [(2,.val),(6,.val)]
 |43,32=>some [(9,.val)]
 |60,37=>some []
 |60,32=>some [(4,.val),(5,.val)]
 |60,11=>some []
 |61,46=>some [(4,.val),(5,.val)]
 |61,12=>some [(1,.val),(4,.val),(5,.val)]
 |101,67=>some [(9,.box 3 [])]
 |101,43=>some [(9,.box 3 [])]
 |101,36=>some [(9,.box 3 [])]
 |123,103=>some [(12,.val)]
 |129,104=>some []
 |129,39=>some [(11,.val)]
 |_,_=>none
def pd:FuncId->Nat->Option (List (Nat×Sh))
 |13,23=>some [(2,.val)]
 |13,20=>some [(196,.val)]
 |13,18=>some [(154,.val)]
 |13,15=>some [(113,.val)]
 |13,10=>some [(89,.val)]
 |13,8=>some [(70,.val)]
 |13,6=>some [(56,.val)]
 |18,3=>some [(30,.val)]
 |29,5=>some [(35,.val)]
 |43,1=>some [(23,.val)]
 |49,12=>some [(2,.val)]
 |49,9=>some [(179,.val)]
 |49,7=>some [(158,.val)]
 |49,5=>some [(126,.val)]
 |49,3=>some [(76,.val)]
 |49,1=>some [(3,.val)]
 |53,12=>some [(2,.val)]
 |53,10=>some [(81,.val)]
 |53,8=>some [(68,.val)]
 |53,6=>some [(55,.val)]
 |53,4=>some [(32,.val)]
 |53,2=>some [(14,.val)]
 |61,9=>some [(46,.val)]
 |89,16=>some [(59,.val)]
 |89,9=>some [(32,.val)]
 |101,12=>some [(67,.val)]
 |101,9=>some [(43,.val)]
 |123,12=>some [(74,.val)]
 |123,7=>some [(35,.val)]
 |123,4=>some [(28,.val)]
 |129,7=>some [(39,.val)]
 |_,_=>none
def aBE:FuncId->Bool
 |_=>false
def ß:FuncId->Nat->Bool
 |12,72=>true
 |14,9=>true
 |35,41=>true
 |46,5=>true
 |64,12=>true
 |75,13=>true
 |85,7=>true
 |117,10=>true
 |117,24=>true
 |117,49=>true
 |117,77=>true
 |169,26=>true
 |169,31=>true
 |181,7=>true
 |187,26=>true
 |187,31=>true
 |190,7=>true
 |216,124=>true
 |100047,7=>true
 |_,_=>false
def à:FuncId->Nat->Bool
 |47,7=>true
 |105,7=>true
 |_,_=>false
def zY:FuncId->Bool
 |184=>true
 |203=>true
 |_=>false
def zZ:FuncId->List (Nat×Nat)
 |32=>[(0,3)]
 |126=>[(1,3)]
 |171=>[(0,0)]
 |172=>[(0,0)]
 |_=>[]
def jh:FuncId->Option (List Aa->IT)
 |21=>some (iE 135)
 |52=>some PD
 |165=>some LL
 |197=>some (Tr 209 286 299)
 |_=>none
def oo:FuncId->FuncId->FuncId
 |44,47=>100047
 |100012,46=>100046
 |100012,47=>100047
 |_,f=>f
def á:FuncId->Bool
 |167=>true
 |_=>false
def â:FuncId->Bool
 |6=>true
 |54=>true
 |88=>true
 |102=>true
 |134=>true
 |140=>true
 |144=>true
 |148=>true
 |153=>true
 |154=>true
 |155=>true
 |176=>true
 |179=>true
 |180=>true
 |181=>true
 |194=>true
 |198=>true
 |199=>true
 |204=>true
 |210=>true
 |217=>true
 |218=>true
 |230=>true
 |231=>true
 |232=>true
 |233=>true
 |234=>true
 |238=>true
 |241=>true
 |242=>true
 |251=>true
 |288=>true
 |289=>true
 |291=>true
 |292=>true
 |293=>true
 |295=>true
 |296=>true
 |_=>false
def Ni:List Int:=(List.range 256).map λi=>if(9<=i/\i<=13)\/i=32 then 1 else 0
def I7:List Aa:=Ni.map λn=> .int .u8 n
def Y0:Nat->Option (List Aa)
 |0=>some I7
 |_=>none
noncomputable def cx:Fo:={P:=Proofs.Tryz.prog,mm:=λf=>Ý (DX f),gl:=λf=>pc (DX f),gm:=λf=>pd (DX f),kind:=λf=>Þ (DX f),HX:=aBE,gp:=â,mF:=ß,Ww:=à,qU:=zY,qV:=zZ,FV:=Y0,mn:=jh,U_:=oo,MZ:=á}
end Go.Am
