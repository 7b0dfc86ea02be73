/- Lemmas -/
import Derived.Test.YtdejbjapknkdnaaGreatDoorV8
import Derived.Test.YtdejbjapknkdnaaGreatDoorProg
set_option linter.all false
namespace Go.Am
def aHk:FuncId->Nat->List (Nat×Sh)
 |4,10=>[(2,.val),(5,.val),(6,.val)]
 |5,14=>[(11,.val)]
 |6,22=>[(6,.val),(12,.val)]
 |7,2=>[(4,.val),(5,.val)]
 |9,5=>[(2,.val),(3,.val),(5,.val)]
 |14,4=>[(4,.val),(5,.val)]
 |16,12=>[(94,.val)]
 |16,5=>[(3,.box 13 []),(63,.val)]
 |22,2=>[(2,.val),(3,.val)]
 |23,9=>[(4,.val),(6,.val)]
 |23,4=>[(4,.val),(5,.val)]
 |27,3=>[(4,.val),(6,.val)]
 |29,5=>[(4,.val),(5,.val),(6,.val)]
 |36,4=>[(4,.val),(5,.val)]
 |42,2=>[(4,.val),(5,.val)]
 |64,8=>[(2,.val),(26,.val)]
 |80,5=>[(2,.val)]
 |80,2=>[(2,.val)]
 |82,2=>[(4,.val)]
 |88,3=>[(2,.val)]
 |91,18=>[(3,.val),(79,.val)]
 |93,4=>[(4,.val),(11,.val)]
 |104,2=>[(4,.val),(8,.val)]
 |120,1=>[(11,.val)]
 |133,5=>[(3,.val)]
 |149,5=>[(27,.val)]
 |159,2=>[(7,.val)]
 |163,2=>[(3,.val)]
 |164,2=>[(6,.val),(7,.val),(13,.val)]
 |184,3=>[(10,.val)]
 |185,2=>[(4,.val),(8,.val)]
 |191,2=>[(4,.val),(5,.val)]
 |201,2=>[(2,.val),(8,.val)]
 |205,4=>[(6,.val),(26,.val)]
 |208,4=>[(4,.val),(5,.val)]
 |211,4=>[(4,.val),(5,.val)]
 |212,25=>[(150,.val)]
 |220,2=>[(4,.val),(5,.val)]
 |229,2=>[(3,.val),(8,.val)]
 |232,2=>[(4,.val),(8,.val)]
 |236,2=>[(4,.val),(8,.val)]
 |237,27=>[(12,.val)]
 |237,21=>[(10,.val),(11,.val),(12,.val)]
 |237,18=>[(12,.val)]
 |237,5=>[(3,.val),(4,.val),(5,.val),(6,.val)]
 |238,4=>[(6,.BN),(27,.val)]
 |243,5=>[(4,.val),(5,.val),(6,.val)]
 |249,3=>[(4,.val),(6,.val)]
 |250,2=>[(8,.val),(9,.val)]
 |261,16=>[(49,.val)]
 |261,4=>[(5,.BN),(6,.val)]
 |264,2=>[(4,.val),(10,.val)]
 |265,3=>[(2,.val),(3,.val),(4,.BN),(9,.val)]
 |266,2=>[(2,.val),(7,.val)]
 |269,2=>[(4,.val),(8,.val)]
 |280,28=>[(12,.val)]
 |280,20=>[(8,.val)]
 |280,15=>[(61,.val)]
 |280,6=>[(2,.val),(4,.val),(5,.val)]
 |307,2=>[(4,.val),(8,.val)]
 |358,24=>[(13,.val),(14,.val)]
 |358,5=>[(5,.val),(6,.val),(32,.val)]
 |358,13=>[(5,.val),(6,.val),(10,.val)]
 |_,_=>[]
def aHl:FuncId->Nat->vC
 |38,2=> .heap
 |39,23=> .heap
 |49,15=> .heap
 |212,36=> .heap
 |226,11=> .heap
 |259,5=> .heap
 |280,6=> .heap
 |280,11=> .heap
 |_,_=> .PT
def aCA:FuncId->Nat->Option (List (Nat×Sh))
 |59,48=>some []
 |59,14=>some [(2,.val),(6,.val)]
 |63,103=>some [(12,.val)]
 |69,83=>some []
 |69,44=>some []
 |69,35=>some [(7,.val)]
 |96,46=>some [(4,.val),(5,.val)]
 |96,12=>some [(1,.val),(4,.val),(5,.val)]
 |133,16=>some [(2,.val)]
 |189,32=>some [(9,.val)]
 |238,67=>some [(9,.box 3 [])]
 |238,43=>some [(9,.box 3 [])]
 |238,36=>some [(9,.box 3 [])]
 |243,37=>some []
 |243,32=>some [(4,.val),(5,.val)]
 |243,11=>some []
 |250,104=>some []
 |250,39=>some [(11,.val)]
 |_,_=>none
def aCB:FuncId->Nat->Option (List (Nat×Sh))
 |59,5=>some [(35,.val)]
 |63,12=>some [(74,.val)]
 |63,7=>some [(35,.val)]
 |63,4=>some [(28,.val)]
 |69,3=>some [(30,.val)]
 |96,9=>some [(46,.val)]
 |133,10=>some [(53,.val)]
 |133,8=>some [(37,.val)]
 |164,16=>some [(59,.val)]
 |164,9=>some [(32,.val)]
 |189,1=>some [(23,.val)]
 |238,12=>some [(67,.val)]
 |238,9=>some [(43,.val)]
 |250,7=>some [(39,.val)]
 |_,_=>none
def aLY:FuncId->Bool
 |32=>true
 |_=>false
def aHm:FuncId->Nat->Bool
 |16,72=>true
 |56,13=>true
 |83,14=>true
 |111,12=>true
 |144,7=>true
 |181,26=>true
 |181,31=>true
 |184,7=>true
 |190,10=>true
 |190,24=>true
 |190,49=>true
 |190,77=>true
 |205,41=>true
 |273,26=>true
 |273,31=>true
 |280,124=>true
 |290,7=>true
 |100033,7=>true
 |200032,5=>true
 |200032,7=>true
 |_,_=>false
def aHn:FuncId->Nat->Bool
 |33,7=>true
 |172,7=>true
 |_,_=>false
def ī:FuncId->Bool
 |237=>true
 |261=>true
 |_=>false
def Ĭ:FuncId->List (Nat×Nat)
 |80=>[(0,3)]
 |83=>[(0,6)]
 |248=>[(1,3)]
 |274=>[(0,0)]
 |275=>[(0,0)]
 |_=>[]
def aBc:FuncId->Option (List Aa->IT)
 |37=>some (wB 91)
 |102=>some Oa
 |227=>some (XQ 258 358 308)
 |_=>none
def aCs:FuncId->FuncId->FuncId
 |83,87=>100087
 |94,33=>100033
 |100016,32=>100032
 |100016,33=>100033
 |100087,32=>200032
 |_,f=>f
def aHo:FuncId->Bool
 |105=>true
 |_=>false
def aHp:FuncId->Bool
 |8=>true
 |15=>true
 |28=>true
 |29=>true
 |30=>true
 |42=>true
 |90=>true
 |95=>true
 |106=>true
 |109=>true
 |158=>true
 |167=>true
 |170=>true
 |171=>true
 |184=>true
 |194=>true
 |199=>true
 |216=>true
 |218=>true
 |224=>true
 |228=>true
 |235=>true
 |239=>true
 |259=>true
 |262=>true
 |263=>true
 |264=>true
 |281=>true
 |282=>true
 |300=>true
 |301=>true
 |302=>true
 |303=>true
 |304=>true
 |311=>true
 |314=>true
 |315=>true
 |324=>true
 |360=>true
 |361=>true
 |363=>true
 |364=>true
 |365=>true
 |367=>true
 |368=>true
 |_=>false
def Ob:List Int:=(List.range 256).map λi=>if(9<=i/\i<=13)\/i=32 then 1 else 0
def Hb:List Aa:=Ob.map λn=> .int .u8 n
def lG:Nat->Option (List Aa)
 |0=>some Hb
 |_=>none
noncomputable def cx:FT:={P:=Proofs.Tryz.prog,aB3:=λf=>aHk (EU f),aAN:=λf=>aCA (EU f),aAO:=λf=>aCB (EU f),kind:=λf=>aHl (EU f),Kf:=aLY,aAP:=aHp,iu:=aHm,Ug:=aHn,sg:=ī,sj:=Ĭ,Hs:=lG,aB4:=aBc,alt:=aCs,Nf:=aHo}
end Go.Am
