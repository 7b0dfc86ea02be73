/- Lemmas -/
import Derived.Test.YtdbnpiefklklhaaGreatDoorH8
import Derived.Test.YtdbnpiefklklhaaGreatDoorProg
import Derived.KernelRfl
set_option linter.all false
def _root_.AA{p:Prop}(h:p:=by kernel_rfl):p:=h
namespace Go.Am
def aEP:FuncId->Nat->List (Nat×Sh)
 |9,5=>[(6,.val)]
 |12,2=>[(2,.val),(3,.val)]
 |16,2=>[(4,.val),(5,.val)]
 |18,5=>[(4,.val),(5,.val),(6,.val)]
 |33,4=>[(4,.val),(5,.val)]
 |34,12=>[(94,.val)]
 |34,5=>[(3,.box 13 []),(63,.val)]
 |35,6=>[(4,.val),(24,.val)]
 |41,5=>[(2,.val)]
 |41,2=>[(2,.val)]
 |44,2=>[(4,.val)]
 |45,2=>[(4,.val),(5,.val)]
 |46,5=>[(2,.val),(3,.val),(5,.val)]
 |58,5=>[(27,.val)]
 |59,3=>[(2,.val)]
 |60,4=>[(6,.val),(26,.val)]
 |74,8=>[(2,.val),(26,.val)]
 |85,4=>[(4,.val),(5,.val)]
 |86,9=>[(4,.val),(6,.val)]
 |86,4=>[(4,.val),(5,.val)]
 |90,4=>[(4,.val),(13,.val)]
 |97,1=>[(11,.val)]
 |110,5=>[(3,.val)]
 |138,3=>[(4,.val),(6,.val)]
 |149,5=>[(4,.val),(5,.val),(6,.val)]
 |150,2=>[(4,.val),(8,.val)]
 |156,4=>[(4,.val),(5,.val)]
 |157,25=>[(150,.val)]
 |158,2=>[(6,.val),(7,.val),(13,.val)]
 |166,2=>[(3,.val)]
 |167,2=>[(7,.val)]
 |171,4=>[(6,.BK),(27,.val)]
 |178,4=>[(4,.val),(11,.val)]
 |187,4=>[(4,.val),(13,.val)]
 |195,2=>[(2,.val),(8,.val)]
 |201,4=>[(4,.val),(5,.val)]
 |203,2=>[(4,.val),(5,.val)]
 |213,18=>[(3,.val),(79,.val)]
 |216,2=>[(4,.val),(8,.val)]
 |226,3=>[(4,.val),(6,.val)]
 |227,2=>[(8,.val),(9,.val)]
 |231,2=>[(4,.val),(5,.val)]
 |232,3=>[(2,.val),(3,.val),(4,.BK),(9,.val)]
 |237,2=>[(4,.val),(10,.val)]
 |238,2=>[(2,.val),(7,.val)]
 |247,3=>[(10,.val)]
 |248,2=>[(4,.val),(8,.val)]
 |251,2=>[(4,.val),(8,.val)]
 |253,27=>[(12,.val)]
 |253,21=>[(10,.val),(11,.val),(12,.val)]
 |253,18=>[(12,.val)]
 |253,5=>[(3,.val),(4,.val),(5,.val),(6,.val)]
 |255,2=>[(4,.val),(8,.val)]
 |272,2=>[(3,.val),(8,.val)]
 |277,16=>[(49,.val)]
 |277,4=>[(5,.BK),(6,.val)]
 |287,2=>[(4,.val),(8,.val)]
 |302,28=>[(12,.val)]
 |302,20=>[(8,.val)]
 |302,15=>[(61,.val)]
 |302,6=>[(2,.val),(4,.val),(5,.val)]
 |367,24=>[(13,.val),(14,.val)]
 |367,5=>[(5,.val),(6,.val),(32,.val)]
 |367,13=>[(5,.val),(6,.val),(10,.val)]
 |_,_=>[]
def aEQ:FuncId->Nat->rA
 |14,15=> .heap
 |48,2=> .heap
 |51,23=> .heap
 |157,36=> .heap
 |284,11=> .heap
 |297,5=> .heap
 |302,6=> .heap
 |302,11=> .heap
 |_,_=> .OP
def ů:FuncId->Nat->Option (List (Nat×Sh))
 |38,48=>some []
 |38,14=>some [(2,.val),(6,.val)]
 |55,83=>some []
 |55,44=>some []
 |55,35=>some [(7,.val)]
 |67,32=>some [(9,.val)]
 |73,103=>some [(12,.val)]
 |93,46=>some [(4,.val),(5,.val)]
 |93,12=>some [(1,.val),(4,.val),(5,.val)]
 |110,16=>some [(2,.val)]
 |149,37=>some []
 |149,32=>some [(4,.val),(5,.val)]
 |149,11=>some []
 |171,67=>some [(9,.box 3 [])]
 |171,43=>some [(9,.box 3 [])]
 |171,36=>some [(9,.box 3 [])]
 |227,104=>some []
 |227,39=>some [(11,.val)]
 |_,_=>none
def Ű:FuncId->Nat->Option (List (Nat×Sh))
 |38,5=>some [(35,.val)]
 |55,3=>some [(30,.val)]
 |67,1=>some [(23,.val)]
 |73,12=>some [(74,.val)]
 |73,7=>some [(35,.val)]
 |73,4=>some [(28,.val)]
 |93,9=>some [(46,.val)]
 |110,10=>some [(53,.val)]
 |110,8=>some [(37,.val)]
 |158,16=>some [(59,.val)]
 |158,9=>some [(32,.val)]
 |171,12=>some [(67,.val)]
 |171,9=>some [(43,.val)]
 |227,7=>some [(39,.val)]
 |_,_=>none
def aJv:FuncId->Bool
 |80=>true
 |_=>false
def aER:FuncId->Nat->Bool
 |34,72=>true
 |60,41=>true
 |82,14=>true
 |121,7=>true
 |143,13=>true
 |151,12=>true
 |222,10=>true
 |222,24=>true
 |222,49=>true
 |222,77=>true
 |244,26=>true
 |244,31=>true
 |247,7=>true
 |268,26=>true
 |268,31=>true
 |291,7=>true
 |302,124=>true
 |100088,7=>true
 |200080,5=>true
 |200080,7=>true
 |_,_=>false
def aES:FuncId->Nat->Bool
 |88,7=>true
 |252,7=>true
 |_,_=>false
def yy:FuncId->Bool
 |253=>true
 |277=>true
 |_=>false
def yz:FuncId->List (Nat×Nat)
 |41=>[(0,3)]
 |82=>[(0,6)]
 |225=>[(1,3)]
 |269=>[(0,0)]
 |270=>[(0,0)]
 |_=>[]
def Ĝ:FuncId->Option (List Aa->IT)
 |47=>some (sD 213)
 |92=>some Wt
 |179=>some Na
 |285=>some (Wp 296 367 340)
 |_=>none
def Ũ:FuncId->FuncId->FuncId
 |82,84=>100084
 |218,88=>100088
 |100034,80=>100080
 |100034,88=>100088
 |100084,80=>200080
 |_,f=>f
def aET:FuncId->Bool
 |181=>true
 |_=>false
def aEU:FuncId->Bool
 |8=>true
 |18=>true
 |45=>true
 |136=>true
 |139=>true
 |172=>true
 |175=>true
 |182=>true
 |185=>true
 |194=>true
 |208=>true
 |210=>true
 |212=>true
 |235=>true
 |236=>true
 |237=>true
 |247=>true
 |258=>true
 |261=>true
 |262=>true
 |276=>true
 |278=>true
 |282=>true
 |286=>true
 |297=>true
 |303=>true
 |304=>true
 |313=>true
 |314=>true
 |315=>true
 |316=>true
 |317=>true
 |321=>true
 |324=>true
 |325=>true
 |334=>true
 |369=>true
 |370=>true
 |372=>true
 |373=>true
 |374=>true
 |376=>true
 |377=>true
 |_=>false
def Nb:List Int:=(List.range 256).map λi=>if(9<=i/\i<=13)\/i=32 then 1 else 0
def GH:List Aa:=Nb.map λn=> .int .u8 n
def gN:Nat->Option (List Aa)
 |0=>some GH
 |_=>none
noncomputable def cx:Fv:={P:=Proofs.Tryz.prog,ō:=λf=>aEP (Ea f),Ą:=λf=>ů (Ea f),ą:=λf=>Ű (Ea f),kind:=λf=>aEQ (Ea f),I3:=aJv,Ć:=aEU,zC:=aER,Z8:=aES,g_:=yy,h_:=yz,GC:=gN,Ŏ:=Ĝ,alt:=Ũ,MI:=aET}
end Go.Am
