/- Lemmas -/
import Derived.Test.YtbkijlifflhdiaaGreatDoorV8
import Derived.Test.YtbkijlifflhdiaaGreatDoorProg
import Derived.KernelRfl
set_option linter.all false
def _root_.AQ{p:Prop}(h:p:=by kernel_rfl):p:=h
namespace Go.Am
def yk:FuncId->Nat->List (Nat×Sh)
 |3,16=>[(4,.val),(9,.val)]
 |3,4=>[(4,.val),(5,.val)]
 |4,13=>[(4,.val),(8,.val)]
 |4,4=>[(4,.val),(5,.val)]
 |5,2=>[(4,.val),(5,.val)]
 |8,5=>[(6,.val)]
 |9,5=>[(3,.Bn),(12,.val)]
 |10,12=>[(94,.val)]
 |10,5=>[(3,.box 13 []),(63,.val)]
 |11,11=>[(2,.val),(6,.val)]
 |11,3=>[(2,.val),(4,.val)]
 |12,8=>[(2,.val),(7,.val)]
 |12,4=>[(2,.val),(5,.val)]
 |13,2=>[(4,.val),(5,.val)]
 |16,4=>[(4,.val),(5,.val)]
 |17,2=>[(2,.val),(3,.val)]
 |30,2=>[(2,.val),(3,.val)]
 |31,7=>[(5,.val),(6,.val)]
 |31,3=>[(3,.Bn),(4,.val)]
 |32,6=>[(4,.val),(6,.val)]
 |34,3=>[(4,.val),(5,.val),(6,.val)]
 |35,3=>[(7,.val),(8,.val)]
 |36,2=>[(4,.val),(5,.val)]
 |38,4=>[(6,.val),(15,.val)]
 |39,4=>[(16,.val)]
 |49,2=>[(4,.val),(8,.val)]
 |54,4=>[(4,.val),(11,.val)]
 |64,5=>[(2,.val)]
 |64,2=>[(2,.val)]
 |65,2=>[(4,.val)]
 |66,5=>[(27,.val)]
 |67,3=>[(2,.val)]
 |68,4=>[(6,.val),(26,.val)]
 |89,4=>[(4,.val),(5,.val)]
 |103,18=>[(3,.val),(79,.val)]
 |105,5=>[(4,.val),(5,.val),(6,.val)]
 |114,4=>[(4,.val),(5,.val)]
 |115,25=>[(150,.val)]
 |116,2=>[(6,.val),(7,.val),(13,.val)]
 |123,2=>[(3,.val)]
 |124,2=>[(7,.val)]
 |128,4=>[(6,.Bn),(27,.val)]
 |133,4=>[(4,.val),(5,.val)]
 |135,2=>[(4,.val),(8,.val)]
 |141,2=>[(4,.val),(8,.val)]
 |158,2=>[(4,.val),(5,.val)]
 |162,4=>[(4,.val),(5,.val)]
 |165,3=>[(4,.val),(6,.val)]
 |166,2=>[(8,.val),(9,.val)]
 |171,2=>[(4,.val),(5,.val)]
 |172,3=>[(2,.val),(3,.val),(4,.Bn),(9,.val)]
 |177,2=>[(4,.val),(10,.val)]
 |178,2=>[(2,.val),(7,.val)]
 |182,3=>[(10,.val)]
 |183,2=>[(4,.val),(8,.val)]
 |206,27=>[(12,.val)]
 |206,21=>[(10,.val),(11,.val),(12,.val)]
 |206,18=>[(12,.val)]
 |206,5=>[(3,.val),(4,.val),(5,.val),(6,.val)]
 |214,2=>[(4,.val),(8,.val)]
 |219,16=>[(49,.val)]
 |219,4=>[(5,.Bn),(6,.val)]
 |225,28=>[(12,.val)]
 |225,20=>[(8,.val)]
 |225,15=>[(61,.val)]
 |225,6=>[(2,.val),(4,.val),(5,.val)]
 |296,24=>[(13,.val),(14,.val)]
 |296,5=>[(5,.val),(6,.val),(32,.val)]
 |296,13=>[(5,.val),(6,.val),(10,.val)]
 |_,_=>[]
def yl:FuncId->Nat->fS
 |11,11=> .heap
 |12,15=> .heap
 |39,4=> .heap
 |39,5=> .heap
 |42,2=> .heap
 |45,23=> .heap
 |115,36=> .heap
 |192,11=> .heap
 |213,5=> .heap
 |225,6=> .heap
 |225,11=> .heap
 |_,_=> .ML
def me:FuncId->Nat->Option (List (Nat×Sh))
 |20,83=>some []
 |20,44=>some []
 |20,35=>some [(7,.val)]
 |47,46=>some [(4,.val),(5,.val)]
 |47,12=>some [(1,.val),(4,.val),(5,.val)]
 |61,48=>some []
 |61,14=>some [(2,.val),(6,.val)]
 |76,32=>some [(9,.val)]
 |100,103=>some [(12,.val)]
 |105,37=>some []
 |105,32=>some [(4,.val),(5,.val)]
 |105,11=>some []
 |128,67=>some [(9,.box 3 [])]
 |128,43=>some [(9,.box 3 [])]
 |128,36=>some [(9,.box 3 [])]
 |166,104=>some []
 |166,39=>some [(11,.val)]
 |_,_=>none
def mf:FuncId->Nat->Option (List (Nat×Sh))
 |20,3=>some [(30,.val)]
 |28,12=>some [(2,.val)]
 |28,10=>some [(81,.val)]
 |28,8=>some [(68,.val)]
 |28,6=>some [(55,.val)]
 |28,4=>some [(32,.val)]
 |28,2=>some [(14,.val)]
 |47,9=>some [(46,.val)]
 |61,5=>some [(35,.val)]
 |76,1=>some [(23,.val)]
 |100,12=>some [(74,.val)]
 |100,7=>some [(35,.val)]
 |100,4=>some [(28,.val)]
 |116,16=>some [(59,.val)]
 |116,9=>some [(32,.val)]
 |128,12=>some [(67,.val)]
 |128,9=>some [(43,.val)]
 |166,7=>some [(39,.val)]
 |_,_=>none
def aAI:FuncId->Bool
 |_=>false
def ym:FuncId->Nat->Bool
 |10,72=>true
 |11,9=>true
 |12,13=>true
 |26,5=>true
 |50,12=>true
 |68,41=>true
 |90,13=>true
 |96,10=>true
 |96,24=>true
 |96,49=>true
 |96,77=>true
 |110,7=>true
 |181,26=>true
 |181,31=>true
 |182,7=>true
 |200,26=>true
 |200,31=>true
 |218,7=>true
 |225,124=>true
 |100027,7=>true
 |_,_=>false
def yn:FuncId->Nat->Bool
 |27,7=>true
 |77,7=>true
 |_,_=>false
def xM:FuncId->Bool
 |206=>true
 |219=>true
 |_=>false
def xN:FuncId->List (Nat×Nat)
 |64=>[(0,3)]
 |163=>[(1,3)]
 |202=>[(0,0)]
 |203=>[(0,0)]
 |_=>[]
def fu:FuncId->Option (List Aa->IT)
 |15=>some (Ki 38 39)
 |22=>some (gN 103)
 |142=>some LG
 |193=>some (Tb 212 296 293)
 |_=>none
def ls:FuncId->FuncId->FuncId
 |24,27=>100027
 |100010,26=>100026
 |100010,27=>100027
 |_,f=>f
def yo:FuncId->Bool
 |143=>true
 |_=>false
def yp:FuncId->Bool
 |7=>true
 |29=>true
 |102=>true
 |113=>true
 |129=>true
 |137=>true
 |146=>true
 |149=>true
 |150=>true
 |157=>true
 |161=>true
 |175=>true
 |176=>true
 |177=>true
 |182=>true
 |190=>true
 |194=>true
 |207=>true
 |213=>true
 |220=>true
 |226=>true
 |227=>true
 |238=>true
 |239=>true
 |240=>true
 |241=>true
 |242=>true
 |248=>true
 |251=>true
 |252=>true
 |261=>true
 |298=>true
 |299=>true
 |301=>true
 |302=>true
 |303=>true
 |305=>true
 |306=>true
 |_=>false
def M2:List Int:=(List.range 256).map λi=>if(9<=i/\i<=13)\/i=32 then 1 else 0
def IP:List Aa:=M2.map λn=> .int .u8 n
def YG:Nat->Option (List Aa)
 |0=>some IP
 |_=>none
noncomputable def cx:E7:={P:=Proofs.Tryz.prog,jn:=λf=>yk (DE f),QR:=λf=>me (DE f),du:=λf=>mf (DE f),kind:=λf=>yl (DE f),HP:=aAI,dv:=yp,kN:=ym,wz:=yn,pG:=xM,pH:=xN,Fl:=YG,jo:=fu,w_:=ls,Mr:=yo}
end Go.Am
