/- Lemmas -/
import Derived.Test.YtemolpggcmbieaaGreatDoorZ8
import Derived.Test.YtemolpggcmbieaaGreatDoorProg
import Derived.KernelRfl
set_option linter.all false
def _root_.AF{p:Prop}(h:p:=by kernel_rfl):p:=h
namespace Go.Am
def aER:FuncId->Nat->List (Nat×Sh)
 |7,5=>[(6,.val)]
 |10,2=>[(4,.val),(5,.val)]
 |12,2=>[(2,.val),(3,.val)]
 |30,4=>[(4,.val),(5,.val)]
 |31,12=>[(94,.val)]
 |31,5=>[(3,.box 13 []),(63,.val)]
 |32,6=>[(4,.val),(24,.val)]
 |33,5=>[(2,.val),(3,.val),(5,.val)]
 |47,5=>[(2,.val)]
 |47,2=>[(2,.val)]
 |48,2=>[(4,.val)]
 |49,5=>[(27,.val)]
 |50,3=>[(2,.val)]
 |51,4=>[(6,.val),(26,.val)]
 |67,8=>[(2,.val),(26,.val)]
 |81,4=>[(4,.val),(5,.val)]
 |82,9=>[(4,.val),(6,.val)]
 |82,4=>[(4,.val),(5,.val)]
 |86,4=>[(4,.val),(13,.val)]
 |90,3=>[(4,.val),(6,.val)]
 |103,5=>[(4,.val),(5,.val),(6,.val)]
 |106,2=>[(4,.val),(8,.val)]
 |121,4=>[(4,.val),(5,.val)]
 |122,25=>[(150,.val)]
 |123,2=>[(6,.val),(7,.val),(13,.val)]
 |131,2=>[(3,.val)]
 |132,2=>[(7,.val)]
 |136,4=>[(6,.BM),(27,.val)]
 |143,4=>[(4,.val),(11,.val)]
 |152,1=>[(11,.val)]
 |165,5=>[(3,.val)]
 |183,4=>[(4,.val),(13,.val)]
 |186,18=>[(3,.val),(79,.val)]
 |192,2=>[(4,.val),(8,.val)]
 |205,2=>[(4,.val),(5,.val)]
 |209,4=>[(4,.val),(5,.val)]
 |212,3=>[(4,.val),(6,.val)]
 |213,2=>[(8,.val),(9,.val)]
 |217,2=>[(4,.val),(5,.val)]
 |218,3=>[(2,.val),(3,.val),(4,.BM),(9,.val)]
 |223,2=>[(4,.val),(10,.val)]
 |224,2=>[(2,.val),(7,.val)]
 |233,3=>[(10,.val)]
 |234,2=>[(4,.val),(8,.val)]
 |239,2=>[(2,.val),(8,.val)]
 |253,2=>[(4,.val),(8,.val)]
 |255,2=>[(4,.val),(8,.val)]
 |267,27=>[(12,.val)]
 |267,21=>[(10,.val),(11,.val),(12,.val)]
 |267,18=>[(12,.val)]
 |267,5=>[(3,.val),(4,.val),(5,.val),(6,.val)]
 |268,2=>[(3,.val),(8,.val)]
 |281,2=>[(4,.val),(8,.val)]
 |286,16=>[(49,.val)]
 |286,4=>[(5,.BM),(6,.val)]
 |296,28=>[(12,.val)]
 |296,20=>[(8,.val)]
 |296,15=>[(61,.val)]
 |296,6=>[(2,.val),(4,.val),(5,.val)]
 |363,24=>[(13,.val),(14,.val)]
 |363,5=>[(5,.val),(6,.val),(32,.val)]
 |363,13=>[(5,.val),(6,.val),(10,.val)]
 |_,_=>[]
def aES:FuncId->Nat->qU
 |27,15=> .heap
 |35,2=> .heap
 |38,23=> .heap
 |122,36=> .heap
 |278,11=> .heap
 |292,5=> .heap
 |296,6=> .heap
 |296,11=> .heap
 |_,_=> .OU
def Ű:FuncId->Nat->Option (List (Nat×Sh))
 |43,83=>some []
 |43,44=>some []
 |43,35=>some [(7,.val)]
 |44,48=>some []
 |44,14=>some [(2,.val),(6,.val)]
 |59,32=>some [(9,.val)]
 |66,103=>some [(12,.val)]
 |103,37=>some []
 |103,32=>some [(4,.val),(5,.val)]
 |103,11=>some []
 |104,46=>some [(4,.val),(5,.val)]
 |104,12=>some [(1,.val),(4,.val),(5,.val)]
 |136,67=>some [(9,.box 3 [])]
 |136,43=>some [(9,.box 3 [])]
 |136,36=>some [(9,.box 3 [])]
 |165,16=>some [(2,.val)]
 |213,104=>some []
 |213,39=>some [(11,.val)]
 |_,_=>none
def ű:FuncId->Nat->Option (List (Nat×Sh))
 |43,3=>some [(30,.val)]
 |44,5=>some [(35,.val)]
 |59,1=>some [(23,.val)]
 |66,12=>some [(74,.val)]
 |66,7=>some [(35,.val)]
 |66,4=>some [(28,.val)]
 |104,9=>some [(46,.val)]
 |123,16=>some [(59,.val)]
 |123,9=>some [(32,.val)]
 |136,12=>some [(67,.val)]
 |136,9=>some [(43,.val)]
 |165,10=>some [(53,.val)]
 |165,8=>some [(37,.val)]
 |213,7=>some [(39,.val)]
 |_,_=>none
def aJC:FuncId->Bool
 |73=>true
 |_=>false
def aET:FuncId->Nat->Bool
 |31,72=>true
 |51,41=>true
 |73,5=>true
 |78,14=>true
 |95,13=>true
 |107,12=>true
 |114,7=>true
 |200,10=>true
 |200,24=>true
 |200,49=>true
 |200,77=>true
 |230,26=>true
 |230,31=>true
 |233,7=>true
 |262,26=>true
 |262,31=>true
 |285,7=>true
 |296,124=>true
 |100084,7=>true
 |200073,5=>true
 |200073,7=>true
 |_,_=>false
def aEU:FuncId->Nat->Bool
 |84,7=>true
 |254,7=>true
 |_,_=>false
def yw:FuncId->Bool
 |267=>true
 |286=>true
 |_=>false
def yx:FuncId->List (Nat×Nat)
 |47=>[(0,3)]
 |78=>[(0,6)]
 |210=>[(1,3)]
 |264=>[(0,0)]
 |265=>[(0,0)]
 |_=>[]
def ğ:FuncId->Option (List Aa->IT)
 |34=>some (rV 186)
 |88=>some Ww
 |144=>some Na
 |279=>some (Wt 291 363 335)
 |_=>none
def ũ:FuncId->FuncId->FuncId
 |78,80=>100080
 |195,84=>100084
 |100031,73=>100073
 |100031,84=>100084
 |100080,73=>200073
 |_,f=>f
def aEV:FuncId->Bool
 |146=>true
 |_=>false
def aEW:FuncId->Bool
 |6=>true
 |91=>true
 |119=>true
 |137=>true
 |140=>true
 |147=>true
 |150=>true
 |185=>true
 |204=>true
 |208=>true
 |221=>true
 |222=>true
 |223=>true
 |233=>true
 |238=>true
 |248=>true
 |251=>true
 |252=>true
 |272=>true
 |276=>true
 |280=>true
 |287=>true
 |292=>true
 |297=>true
 |298=>true
 |309=>true
 |310=>true
 |311=>true
 |312=>true
 |313=>true
 |317=>true
 |320=>true
 |321=>true
 |330=>true
 |365=>true
 |366=>true
 |368=>true
 |369=>true
 |370=>true
 |372=>true
 |373=>true
 |_=>false
def Nb:List Int:=(List.range 256).map λi=>if(9<=i/\i<=13)\/i=32 then 1 else 0
def GD:List Aa:=Nb.map λn=> .int .u8 n
def gR:Nat->Option (List Aa)
 |0=>some GD
 |_=>none
noncomputable def cx:FB:={P:=Proofs.Tryz.prog,ŏ:=λf=>aER (Ec f),ć:=λf=>Ű (Ec f),Ĉ:=λf=>ű (Ec f),kind:=λf=>aES (Ec f),I9:=aJC,ĉ:=aEW,zC:=aET,Z5:=aEU,gy:=yw,g_:=yx,Gy:=gR,Ő:=ğ,alt:=ũ,MG:=aEV}
end Go.Am
