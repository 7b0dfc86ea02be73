/- Lemmas -/
import Derived.Test.YtdbnpiefklklhaaGreatDoorH26
set_option linter.all false
noncomputable section
set_option maxRecDepth 100000
section
namespace Go.Am
open Go
structure DH where
 k:Int
 name:Ah
 hn:Bool
 JV:Ah
 hp:Bool
 sys:Ah
 hs:Bool
 q:Bool
 Au:List A3
 sc:Bool
 data:Ah
 r:Int
namespace DH
def ok(t:DH):Prop:=1<=t.k/\t.k<=6
instance(t:DH):Decidable t.ok:=by unfold ok;infer_instance
def st(t:DH)(ws:List Ah):Prop:=t.k=2/\t.name∈ws
instance(t:DH)(ws:List Ah):Decidable (t.st ws):=by unfold st;infer_instance
def en(t:DH)(ws:List Ah):Prop:=t.k=3/\t.name∈ws
instance(t:DH)(ws:List Ah):Decidable (t.en ws):=by unfold en;infer_instance
def lW(t:DH)(ws:List Ah):Prop:=t.k=3/\t.name∉ws
instance(t:DH)(ws:List Ah):Decidable (t.lW ws):=by unfold lW;infer_instance
end DH
def d_(r:Int):Prop:=(9<=r/\r<=10)\/(12<=r/\r<=13)\/r=32
instance(r:Int):Decidable (d_ r):=by unfold d_;infer_instance
namespace DH
def ID(t:DH):Prop:=t.k=5/\d_ t.r
instance(t:DH):Decidable t.ID:=by unfold ID;infer_instance
end DH
def MV(nm:Ah):DH:=⟨2,nm,false,[],false,[],false,false,[],false,[],0⟩
def eHB:List Ah:=[aTB,aTF,aTA,[98,114]]
def uw:List Ah:=[aTB,aTz,aTF,aTA,[98,114]]
def pZ:List Ah:=[aTz,aTF,aTA,[98,114]]
def eNo:List Ah:=[aTQ,[98,114]]
def ux:List Ah:=[[98,97,115,101],aUV,aU0,aVw,[109,101,116,97]]
def sNS:List Ah:=[aUT,aU1]
def aC8:List Ah:=[aUV,aU0,aVw,[109,101,116,97],aUT,aU1]
def sHN:List Ah:=[aTB,aTQ]
def Hq:List Ah:=[[98,97,115,101],aUV,aU0,aVw,[109,101,116,97],aUT,aUv,aU1,aTz,aTX]
def sT1:List Ah:=[aT0,aUe,aUn,aUm,aUo]
def sTd:List Ah:=[[116,100],[116,104]]
def Pz:List Ah:=[aU2,[97,114,116,105,99,108,101],[97,115,105,100,101],aU6,[99,101,110,116,101,114],[100,101,116,97,105,108,115],[100,105,97,108,111,103],[100,105,114],aVs,[100,108],aVe,aU7,[102,105,103,117,114,101],[102,111,111,116,101,114],[104,101,97,100,101,114],[104,103,114,111,117,112],[109,97,105,110],[109,101,110,117],[110,97,118],[111,108],[112],[115,101,97,114,99,104],[115,101,99,116,105,111,110],[115,117,109,109,97,114,121],[117,108]]
def kK:List Ah:=[[112,114,101],[108,105,115,116,105,110,103]]
def kL:List Ah:=[[98],[98,105,103],[99,111,100,101],[101,109],[102,111,110,116],[105],[115],[115,109,97,108,108],[115,116,114,105,107,101],[115,116,114,111,110,103],[116,116],[117]]
def TO:List Ah:=[aUQ,aUH,aUW]
def PC:List Ah:=[[97,114,101,97],[98,114],[101,109,98,101,100],aTG,aTD,[107,101,121,103,101,110],[119,98,114],aUu,aU9,aUR,aVa,[104,114]]
def QJ:List Ah:=[aT0,aVc,aUe,[102,114,97,109,101],aTB,aUn,[116,100],aUm,[116,104],aUo,[116,114]]
def ó:List Ah:=[aUA,aVr,aUS,[110,111,101,109,98,101,100],aUw]
def yH:List Ah:=[[114,98],aUP,[114,112],[114,116]]
def ô:List Ah:=[aU4,[115,118,103]]
def yI:List Ah:=[[108,105],[100,100],[100,116]]
def õ:List Ah:=[aUc,aTT]
def N6:List Ah:=[aTA,aTF]
def XQ:List Ah:=[aU2,[97,114,116,105,99,108,101],[97,115,105,100,101],aU6,aTC,[99,101,110,116,101,114],[100,101,116,97,105,108,115],[100,105,97,108,111,103],[100,105,114],aVs,[100,108],aVe,aU7,[102,105,103,117,114,101],[102,111,111,116,101,114],[104,101,97,100,101,114],[104,103,114,111,117,112],[108,105,115,116,105,110,103],[109,97,105,110],[109,101,110,117],[110,97,118],[111,108],[112,114,101],[115,101,97,114,99,104],[115,101,99,116,105,111,110],[115,117,109,109,97,114,121],[117,108]]
def uy:List Ah:=[[97],[98],[98,105,103],[99,111,100,101],[101,109],[102,111,110,116],[105],aTZ,[115],[115,109,97,108,108],[115,116,114,105,107,101],[115,116,114,111,110,103],[116,116],[117]]
def kM:List Ah:=[[112],[108,105],[100,100],[100,116]]
def YC:List Ah:=[aU2,aVs,[112]]
def wDD:List Ah:=[[100,100],[100,116]]
def p8:List Ah:=[aU9,aUR,aVa]
namespace BS
def E4(b:BS)(t:DH):BS:=b.Fq t.name t.Au 1
def MC(b:BS)(t:DH):BS:=(b.E4 t).KI
def ö(b:BS):BS:={b with a:=b.a.set b.CK {b.a.nd b.CK with CS:=true}}
def ZR(b:BS)(t:DH):BS:={b with a:=(b.a.add {kind:=3,CK:=b.CK,name:=t.name,JV:=t.JV,sys:=t.sys}).Ie b.CK (b.a.len+1) 0}
def again(b:BS)(m:Int):BS×Bool:=({b with mode:=m},true)
def W9(b:BS):Prop:=0<=AX (Be [Bc]) b.AK
instance(b:BS):Decidable b.W9:=by unfold W9;infer_instance
def has(b:BS)(ws:List Ah):Bool:=Pl (Be ws) (NR 1) b.AK.reverse
def EE(b:BS)(nm ex:Ah):BS:={b with AK:=DT Db (Be [nm]) (DT (Eu ex) Db b.AK)}
def Oy(b:BS)(t:DH):BS:=if b.W9\/b.AK=[] then b else b.GR t.Au (DJ b.AK 0).node
def Ld(b:BS):Bool:=decide (2<=b.AK.length)&&Be [aTF] (DJ b.AK 1)
def Rn(b:BS)(t:DH):BS:=
 if b.W9\/b.AK=[] then b else if t.name=aTA then b.GR t.Au (DJ b.AK 0).node
 else if b.Ld then({b with fs:=false}:BS).GR t.Au (DJ b.AK 1).node else b
def MD(CS:DH->Bool)(b:BS)(t:DH):BS×Bool:=
 if¬t.ok then(b,false)
 else if t.ID then(b,false)
 else if t.k=4 then(b.EL t.data b.CK,false)
 else if t.k≠1 then b.ö.again 2
 else
  let b1:=b.ZR t
  let b2:=if CS t then b1.ö else b1
  ({b2 with mode:=2},false)
def GJ(b:BS)(t:DH):BS×Bool:=
 if¬t.ok then(b,false)
 else if t.k=1 then(b,false)
 else if t.ID then(b,false)
 else if t.lW eHB then(b,false)
 else if t.k=4 then(b.EL t.data b.CK,false)
 else if t.st [aTA] then({b.E4 t with mode:=3},false)
 else(b.E4 (MV aTA)).again 3
def GK(b:BS)(t:DH):BS×Bool:=
 if¬t.ok then(b,false)
 else if t.k=1 then(b,false)
 else if t.ID then(b,false)
 else if t.lW eHB then(b,false)
 else if t.k=4 then(b.EL t.data 0,false)
 else if t.st [aTA] then(b.Oy t,false)
 else if t.st [aTB] then({b.E4 t with head:=b.OF 1,mode:=4},false)
 else({b.E4 (MV aTB) with head:=b.OF 1}:BS).again 4
def EJ(b:BS)(t:DH):BS×Bool:=
 if¬t.ok then(b,false)
 else if t.k=1 then(b,false)
 else if t.st [aTB] then(b,false)
 else if t.lW uw then(b,false)
 else if t.ID then(b.Re t.r,false)
 else if t.k=4 then(b.EL t.data 0,false)
 else if t.st [aTA] then(b.Oy t,false)
 else if t.st ux then(b.MC t,false)
 else if t.st [aTX] then(b.EM t.name t.Au 2,false)
 else if t.st sNS then(b.EM t.name t.Au 3,false)
 else if t.st [aUv] then(b.EM t.name t.Au 4,false)
 else if t.st [aTQ] then({b.E4 t with mode:=5},false)
 else if t.en [aTB] then({b.KI with mode:=6},false)
 else if t.st [Bc] then
  let b1:=b.E4 t
  ({b1 with AZ:=b1.AZ++[Co.zero],fs:=false,mode:=18,tm:=b1.tm++[18]},false)
 else if t.en [Bc] then(b.Dd,false)
 else b.KI.again 6
def GL(b:BS)(t:DH):BS×Bool:=
 if¬t.ok then(b,false)
 else if t.k=1 then(b,false)
 else if t.st sHN then(b,false)
 else if t.lW eNo then(b,false)
 else if t.st [aTA] then(b.Oy t,false)
 else if t.en [aTQ] then({b.KI with mode:=4},false)
 else if t.ID then b.EJ t
 else if t.k=4 then b.EJ t
 else if t.st aC8 then b.EJ t
 else b.KI.again 4
def L4(n:Int):Item:=⟨n,1,aTB,false⟩
def TP(b:BS)(t:DH):BS×Bool:=
 let r:=({b with AK:=b.AK++[L4 b.head]}:BS).EJ t
 ({r.1 with AK:=Dt b.head r.1.AK},r.2)
def HI(b:BS)(t:DH):BS×Bool:=
 if¬t.ok then(b,false)
 else if t.k=1 then(b,false)
 else if t.st [aTB] then(b,false)
 else if t.lW pZ then(b,false)
 else if t.ID then(b.Re t.r,false)
 else if t.k=4 then(b.EL t.data 0,false)
 else if t.st [aTA] then(b.Oy t,false)
 else if t.st [aTF] then({b.E4 t with fs:=false,mode:=7},false)
 else if t.st [aTJ] then({b.E4 t with mode:=20},false)
 else if t.st Hq then b.TP t
 else if t.en [Bc] then b.EJ t
 else(b.E4 (MV aTF)).again 7
def N7(b:BS)(t:DH):BS×Bool:=
 if¬t.ok then(b,false)
 else if t.k=5 then(b.Re t.r,false)
 else if t.k=6 then b.KI.again b.OE
 else if t.k=3 then({b.KI with mode:=b.OE},false)
 else(b,false)
def aC9(b:BS):BS:={b with tm:=b.tm.dropLast}
def Hr(b:BS)(m:Int):BS×Bool:=({b with tm:=b.tm.dropLast++[m]}:BS).again m
def PD(b:BS)(t:DH):BS:=
 if t.r=0 then b else
 let b1:=b.Bf.Re t.r
 if t.ID then b1 else{b1 with fs:=false}
def TQ(b:BS):BS×Bool:=
 if b.W9 then(({b with AK:=DT Db (Be [Bc]) b.AK,AZ:=Fx b.AZ,tm:=b.tm.dropLast}:BS).IQ,true)
 else({b with stop:=true},false)
def Ep(b:BS)(t:DH):BS×Bool:=
 if¬t.ok then(b,false)
 else if t.k=5 then(b.PD t,false)
 else if t.k=4 then(b.EL t.data 0,false)
 else if t.k=1 then(b,false)
 else if t.st Hq then b.EJ t
 else if t.en [Bc] then b.EJ t
 else if t.st sT1 then b.Hr 9
 else if t.st [aVc] then b.Hr 12
 else if t.st [[116,114]] then b.Hr 13
 else if t.st sTd then b.Hr 14
 else if t.k=2 then b.Hr 7
 else if t.k=3 then(b,false)
 else b.TQ
def block(b:BS)(t:DH):BS:=b.CA.E4 t
def N8(b:BS)(t:DH):BS:=
 let b1:=b.CA
 (if Be CT (E3 b1.AK) then b1.KI else b1).E4 t
def Tm(b:BS)(t:DH):BS:={b.block t with skip:=true,fs:=false}
def XR(b:BS)(t:DH):BS:=
 if b.HP≠0/\¬b.W9 then b else
 let b1:=b.CA
 if b.W9 then b1.E4 t else{b1.E4 t with HP:=b1.OF 1}
def Jb(ws:List Ah)(i:Item):Bool:=Be ws i||(Dj i&& !(Be YC i))
def IU(b:BS)(ws:List Ah):BS:=match b.AK.reverse.find? (Jb ws) with
 |some i=>if Be ws i then b.EE i.name i.name else b
 |none=>b
def p9(b:BS)(t:DH):BS:=(({b with fs:=false}:BS).IU (if t.name=[108,105] then[[108,105]] else wDD)).block t
def TR(b:BS)(t:DH):BS:=
 let b1:=if b.has [aTC] then b.EE aTC [] else b
 {b1.Bf.E4 t with fs:=false}
def fmt(b:BS)(t:DH):BS:=b.Bf.Hn t.name t.Au
def JN(l:List Co)(n:Int):List Co:=if Fw n l<0 then l else Bz l (Fw n l).toNat
def ZS(b:BS):BS:=
 let k:=Ff [97] b.AZ
 if k<0 then b else
 let n:=(b.AZ.getD k.toNat Co.zero).node
 let b1:=b.DK [97]
 {b1 with AZ:=JN b1.AZ n,AK:=Dt n b1.AK}
def ee(b:BS)(t:DH):BS:=b.ZS.fmt t
def ej(b:BS)(t:DH):BS:=
 let b1:=b.Bf
 (if b1.has [aTZ] then(b1.DK aTZ).Bf else b1).Hn t.name t.Au
def BY(b:BS)(t:DH):BS:=
 let b1:=b.Bf.E4 t
 {b1 with AZ:=b1.AZ++[Co.zero],fs:=false}
def Ro(b:BS)(t:DH):BS:=
 let b1:=if(b.a.nd b.CK).CS then b else b.CA
 {b1.E4 t with fs:=false,mode:=9}
def PE(l:List A3):Bool:=match l.find? λa=>decide (a.name=aUG) with
 |some a=>decide (EC a.value=aUs)
 |none=>false
def empty(b:BS)(t:DH):BS:=
 if t.name=[104,114] then{b.CA.MC t with fs:=false}
 else if t.name∈p8 then{b.MC t with fs:=b.fs}
 else if t.name=aUu then{b.Bf.MC t with fs:=b.fs&&PE t.Au}
 else{b.Bf.MC {t with name:=if t.name=aTD then aTG else t.name} with fs:=false}
def raw(b:BS)(t:DH):BS:=
 if t.name=aUw then{b.block t with sw:=5}
 else if t.name=aUA then{b.EM t.name t.Au 2 with skip:=true,fs:=false}
 else if t.name=aVr then({b.CA.Bf with fs:=false}:BS).EM t.name t.Au 3
 else if t.name=aUS then({b with fs:=false}:BS).EM t.name t.Au 3
 else b.EM t.name t.Au 3
def TS(b:BS)(t:DH):BS:=
 {b.Bf.E4 t with fs:=false,mode:=if b.mode=9\/b.mode=11\/b.mode=13\/b.mode=14\/b.mode=15 then 17 else 16}
def TT(b:BS)(t:DH):BS:=(if Be [aTT] (E3 b.AK) then b.KI else b).Bf.E4 t
def qC(b:BS)(t:DH):BS:=
 (if b.has [aUI] then{b with AK:=DT (Eu (if t.name=[114,112]\/t.name=[114,116] then aUP else[])) Db b.AK} else b).E4 t
def N9(b:BS)(t:DH):BS:=
 let b1:=b.Bf.Fq t.name t.Au (if t.name=aU4 then 3 else 2)
 if t.sc then b1.KI else b1
def Kl(b:BS)(t:DH):BS:=
 if b.Ld=false\/b.fs=false then b else
 {({b with a:=b.a.cut (DJ b.AK 1).node,AK:=b.AK.take 1}:BS).E4 t with mode:=20}
def opens(b:BS)(t:DH):BS×Bool:=
 if t.name∈Hq then b.EJ t
 else if t.name∈Pz then(b.block t,false)
 else if t.name∈CT then(b.N8 t,false)
 else if t.name∈kK then(b.Tm t,false)
 else if t.name∈kL then(b.fmt t,false)
 else if t.name∈TO then(b.BY t,false)
 else if t.name∈PC then(b.empty t,false)
 else if t.name∈QJ then(b,false)
 else if t.name∈ó then(b.raw t,false)
 else if t.name∈yH then(b.qC t,false)
 else if t.name∈ô then(b.N9 t,false)
 else if t.name∈yI then(b.p9 t,false)
 else if t.name∈õ then(b.TT t,false)
 else if t.name∈N6 then(b.Rn t,false)
 else if t.name=aTJ then(b.Kl t,false)
 else if t.name=aUa then(b.XR t,false)
 else if t.name=aTC then(b.TR t,false)
 else if t.name=[97] then(b.ee t,false)
 else if t.name=aTZ then(b.ej t,false)
 else if t.name=aTO then(b.Ro t,false)
 else if t.name=aUf then(b.TS t,false)
 else(b.Bf.E4 t,false)
def SM(b:BS)(t:DH):BS×Bool:=if b.has [aTF] then({b with mode:=19},decide (t.name=aTA)) else(b,false)
def JO(b:BS)(t:DH):BS:=if b.has [t.name] then b.EE t.name [] else b
def Oa(b:BS):BS:=if b.has CT then{b with AK:=DT Db (Be CT) (DT (Eu []) Db b.AK)} else b
def Qf(b:BS)(t:DH):BS:=if b.has [t.name] then{b.EE t.name [] with AZ:=Fx b.AZ} else b
def Oz(b:BS)(sc:Int)(q:Item->Bool):Bool:=Pl q (NR sc) b.AK.reverse
def Ob(b:BS)(t:DH):BS:=
 let s:=b.Oz (if t.name=[112] then 3 else if t.name=[108,105] then 2 else 1) (Be [t.name])
 if s then b.EE t.name t.name
 else if t.name=[112] then(b.E4 (MV [112])).EE t.name t.name else b
def Vz(b:BS)(t:DH):BS:=
 if b.W9 then b.JO t
 else if b.HP≠0/\b.Oz 1 (BQ b.HP) then{b with HP:=0,AK:=Dt b.HP (DT (Eu []) Db b.AK)}
 else{b with HP:=0}
def L5(b:BS)(t:DH):BS×Bool:=
 if t.name=Bc then b.EJ t
 else if t.name∈N6 then b.SM t
 else if t.name∈XQ then(b.JO t,false)
 else if t.name∈uy then(b.DK t.name,false)
 else if t.name∈CT then(b.Oa,false)
 else if t.name∈TO then(b.Qf t,false)
 else if t.name∈kM then(b.Ob t,false)
 else if t.name=aUa then(b.Vz t,false)
 else if t.name=[98,114] then(b.empty (MV [98,114]),false)
 else(b.Dq t.name,false)
def E5(b:BS)(t:DH):BS×Bool:=
 if¬t.ok then(b,false)
 else if t.k=5 then(b.PD t,false)
 else if t.k=4 then(b.EL t.data 0,false)
 else if t.k=6 then(if 0<b.tm.length then b.Ep t else({b with stop:=true},false))
 else if t.k=2 then b.opens t
 else if t.k=3 then b.L5 t
 else(b,false)
def apply(CS:DH->Bool)(b:BS)(t:DH):BS×Bool:=
 if¬t.ok then(b,false)
 else if b.mode=1 then b.MD CS t
 else if b.mode=2 then b.GJ t
 else if b.mode=3 then b.GK t
 else if b.mode=4 then b.EJ t
 else if b.mode=5 then b.GL t
 else if b.mode=6 then b.HI t
 else if b.mode=7 then b.E5 t
 else if b.mode=8 then b.N7 t
 else if b.mode=18 then b.Ep t
 else(b,false)
end BS
def ZT:List Ah:=[aVs,[112],aTX,aU1,aUa,[97],aTO]
def QK(rule:Int)(t:DH):Bool:=
 if¬t.ok then true
 else if t.k=1 then decide (rule≠1)
 else if rule=8 then decide (t.k=2\/t.k=4)
 else if rule=7/\t.k=5 then decide (t.r=0)
 else if rule=7 then decide (t.k=2/\t.name∈QJ)
 else if rule<=3/\t.k=5 then decide (t.r=32\/t.r=10)
 else if rule=9\/(2<=rule/\rule<=6/\t.k=3) then decide (t.k=3/\t.name∈ZT)
 else decide (4<=rule/\rule<=6/\t.k=2/\t.name=aTB)
def SN(qk:DH->Bool)(rule:Int)(b:BS)(t:DH):BS×Bool:=
 if rule=0 then b.apply qk t
 else if rule=1 then b.MD qk t
 else if rule=2 then b.GJ t
 else if rule=3 then b.GK t
 else if rule=4 then b.EJ t
 else if rule=5 then b.GL t
 else if rule=6 then b.HI t
 else if rule=7 then b.E5 t
 else if rule=8 then b.N7 t
 else if rule=9 then b.Ep t
 else(b,false)
section
variable{b:BS}{t:DH}{qk:DH->Bool}{rule:Int}
def yJ{ws:List Ah}(hd:(ws.all λw=> !ZT.contains w)=true)(h:t.name∈ZT):t.name∉ws:=λh2=>by have:=Cg.1 hd _ h2;simp[h] at this
def Oc{ws:List Ah}(hd:(ws.all λw=> !QJ.contains w)=true)(h:t.name∈QJ):t.name∉ws:=λh2=>by have:=Cg.1 hd _ h2;simp[h] at this
def eo(h1:1<=rule)(q:rule<=9)(hv:QK rule t=true):SN qk rule b t=(b,false):=by
 unfold QK at hv;by_cases HW:t.ok;rotate_left
 .unfold SN BS.MD BS.GJ BS.GK BS.EJ BS.GL BS.HI BS.E5 BS.N7 BS.Ep;simp only[Af (show¬t.ok from HW),ite_self];rw[Ad Ab];repeat' split
  all_goals first|rfl|omega
 rw[Ad (by simpa using HW)] at hv;have L6:¬¬t.ok:=by simpa using HW
 by_cases a:t.k=1
 .rw[Af a] at hv;have hv:=Cq hv;have w:¬t.ID:=λh=>by have:=h.1;omega
  have ns:∀ws,¬t.st ws:=λws h=>by have:=h.1;omega
  have ne:∀ws,¬t.en ws:=λws h=>by have:=h.1;omega
  unfold SN;rw[Ad Ab,Ad hv];split;.unfold BS.GJ;rw[Ad L6,Af a]
  split;.unfold BS.GK;rw[Ad L6,Af a]
  split;.unfold BS.EJ;rw[Ad L6,Af a]
  split;.unfold BS.GL;rw[Ad L6,Af a]
  split;.unfold BS.HI;rw[Ad L6,Af a]
  split;.unfold BS.E5;rw[Ad L6,Ad Ab,Ad Ab,Ad Ab,Ad Ab,Ad Ab]
  split;.unfold BS.N7;rw[Ad L6,Ad Ab,Ad Ab,Ad Ab]
  split;.unfold BS.Ep;rw[Ad L6,Ad Ab,Ad Ab,Af a]
  rfl
 rw[Ad a] at hv;by_cases j:rule=8;.rw[Af j] at hv;have hv:=Cq hv;unfold SN;rw[Ad Ab,Ad Ab,Ad Ab,Ad Ab,Ad Ab,Ad Ab,Ad Ab,Ad Ab,Af j];unfold BS.N7;rw[Ad L6,Ad Ab,Ad Ab,Ad Ab]
 rw[Ad j] at hv;by_cases c:rule=7/\t.k=5;.rw[Af c] at hv;have hv:=Cq hv;obtain⟨f,l⟩:=c;unfold SN;rw[Ad Ab,Ad Ab,Ad Ab,Ad Ab,Ad Ab,Ad Ab,Ad Ab,Af f];unfold BS.E5;rw[Ad L6,Af l];unfold BS.PD;rw[Af hv]
 rw[Ad c] at hv;by_cases f:rule=7
 .rw[Af f] at hv;obtain⟨i,hn⟩:=Cq hv;have no:∀{w:Ah},QJ.contains w=false->t.name≠w:=λhw e=>by rw[e] at hn;simp[hn] at hw
  unfold SN;rw[Ad Ab,Ad Ab,Ad Ab,Ad Ab,Ad Ab,Ad Ab,Ad Ab,Af f];unfold BS.E5;rw[Ad L6,Ad Ab,Ad Ab,Ad Ab,Af i];unfold BS.opens;rw[Ad (Oc Cz hn),Ad (Oc Cz hn),Ad (Oc Cz hn),Ad (Oc Cz hn),Ad (Oc Cz hn),Ad (Oc Cz hn),Ad (Oc Cz hn),Af hn]
 rw[Ad f] at hv;by_cases xo:rule<=3/\t.k=5
 .rw[Af xo] at hv;have hv:=Cq hv;obtain⟨p,l⟩:=xo;have w:t.ID:=⟨l,by unfold d_;omega⟩;unfold SN;rw[Ad Ab];split;.unfold BS.MD;rw[Ad L6,Af w]
  split;.unfold BS.GJ;rw[Ad L6,Ad a,Af w]
  split;.unfold BS.GK;rw[Ad L6,Ad a,Af w]
  omega
 rw[Ad xo] at hv;by_cases d:rule=9\/(2<=rule/\rule<=6/\t.k=3)
 .rw[Af d] at hv;obtain⟨m,hn⟩:=Cq hv;have w:¬t.ID:=λh=>by have:=h.1;omega
  have ns:∀ws,¬t.st ws:=λws h=>by have:=h.1;omega
  have g:∀{ws},(ws.all λw=> !ZT.contains w)=true->t.lW ws:=λhd=>⟨m,yJ hd hn⟩;unfold SN;rw[Ad Ab];rcases d with d|⟨r2,n,_⟩
  .rw[Ad Ab,Ad Ab,Ad Ab,Ad Ab,Ad Ab,Ad Ab,Ad Ab,Ad Ab,Af d];unfold BS.Ep;rw[Ad L6,Ad Ab,Ad Ab,Ad a,Ad (ns _),Ad (λh=>yJ (ws:=[Bc]) Cz hn h.2),Ad (ns _),Ad (ns _),Ad (ns _),Ad (ns _),Ad Ab,Af m]
  .rw[Ad Ab];split;.unfold BS.GJ;rw[Ad L6,Ad a,Ad w,Af (g Cz)]
   split;.unfold BS.GK;rw[Ad L6,Ad a,Ad w,Af (g Cz)]
   split;.unfold BS.EJ;rw[Ad L6,Ad a,Ad (ns _),Af (g Cz)]
   split;.unfold BS.GL;rw[Ad L6,Ad a,Ad (ns _),Af (g Cz)]
   split;.unfold BS.HI;rw[Ad L6,Ad a,Ad (ns _),Af (g Cz)]
   omega
 rw[Ad d] at hv;obtain⟨o,n,i,hn⟩:=Cq hv;unfold SN;rw[Ad Ab,Ad Ab,Ad Ab,Ad Ab];split;.unfold BS.EJ;rw[Ad L6,Ad a,Af ⟨i,by rw[hn];decide+kernel⟩]
 split;.unfold BS.GL;rw[Ad L6,Ad a,Af ⟨i,by rw[hn];decide+kernel⟩]
 split;.unfold BS.HI;rw[Ad L6,Ad a,Af ⟨i,by rw[hn];decide+kernel⟩]
 omega
end
structure Gz(b:BS)(n o a:Nat):Prop where
 ok:EI b
 rm:Cx b n
 AK:b.AK.length<=o
 AZ:b.AZ.length<=a
structure DH.Sm(t:DH):Prop where
 name:t.name.length<=1000
 Au:Eb t.Au
 data:t.data.length<=1000
 r: -2147483648<=t.r/\t.r<=2147483647
structure qD(b:BS):Prop where
 has:b.a.has b.head
 kind:(b.a.nd b.head).kind=4
 A6:(b.a.nd b.head).A6=1
 name:(b.a.nd b.head).name=aTB
 no:b.head∉b.AK.map Item.node
section
variable{b b':BS}{n n' o o' a a':Nat}{nm:Ah}{l:List A3}{t:DH}{sp:Int}
def Gz.le(g:Gz b n o a)(h1:n'<=n)(h2:o<=o')(c:a<=a'):Gz b n' o' a':=⟨g.ok,g.rm.le h1,Bp g.AK h2,Bp g.AZ c⟩
def Gz.ite{c:Prop}[Decidable c]{x y:BS×Bool}(h1:Gz x.1 n o a)(h2:Gz y.1 n o a):Gz (if c then x else y).1 n o a:=by split;exact h1;exact h2
def Gz.aHo{d c:Prop}[Decidable d][Decidable c]{x y:BS×Bool}(h1:Gz x.1 n o a)(h2:Gz y.1 n o a):Gz (if d then x else if c then x else y).1 n o a:= .ite h1 (.ite h1 h2)
def Gz.aL3{e d c:Prop}[Decidable e][Decidable d][Decidable c]{x y:BS×Bool}(h1:Gz x.1 n o a)(h2:Gz y.1 n o a):Gz (if e then x else if d then x else if c then x else y).1 n o a:= .ite h1 (.aHo h1 h2)
def Gz.aL4{f e d c:Prop}[Decidable f][Decidable e][Decidable d][Decidable c]{x y:BS×Bool}(h1:Gz x.1 n o a)(h2:Gz y.1 n o a):Gz (if f then x else if e then x else if d then x else if c then x else y).1 n o a:= .ite h1 (.aL3 h1 h2)
def Gz.dn(g:Gz b n o a)(h:n'<=n):Gz b n' o a:=g.le h (Ae _) (Ae _)
def Gz.MI(g:Gz b (n+4) o a)(hl:Eb l)(hn:nm.length<=1000):Gz (b.Fq nm l sp) n (o+1) a:=by
 refine⟨Rf g.ok,L0 g.rm hl hn,?_,by rw[FU];exact g.AZ⟩;have:=g.AK;unfold BS.Fq;split
 .rename_i hs;have e:(b.FY nm l sp (b.place 0).1).AK=b.AK:=by unfold BS.FY;rw[Af hs]
  simp only[e,Aq,Bl];omega
 .omega
def Gz.eq{c:BS}(g:Gz b n o a)(h1:c.a=b.a)(h2:c.CK=b.CK)(e:c.AK=b.AK)(d:c.AZ=b.AZ)(f:c.tm=b.tm):Gz c n o a:=
 ⟨g.ok.of_eq h1 h2 e d,g.rm.eq h1 e d f,by rw[e];exact g.AK,by rw[d];exact g.AZ⟩
def Gz.sub(g:Gz b n o a){lo:List Item}{lc:List Co}{lt:List Int}(h1:lo.Sublist b.AK)(h2:lc.Sublist b.AZ)(c:lt.length<=b.tm.length):Gz {b with AK:=lo,AZ:=lc,tm:=lt} n o a:=
 ⟨((g.ok.Js h1).jD (by exact h2)).of_eq rfl rfl rfl rfl,g.rm.sub rfl h1 h2 c,Bp h1.length_le g.AK,Bp h2.length_le g.AZ⟩
def Gz.Js(g:Gz b n o a){lo:List Item}(h1:lo.Sublist b.AK):Gz {b with AK:=lo} n o a:=g.sub h1 (AF _) (Ae _)
def Gz.Hn(g:Gz b (n+5) o a)(hl:Eb l)(hn:nm.length<=1000):Gz (b.Hn nm l) n (o+1) (a+1):=by
 have g1:=(g.le (n':=n+1+4) Ab (Ae _) (Ae _)).MI (sp:=1) hl hn;refine⟨ZD g.ok,Ux g.rm hl hn,g1.AK,?_⟩;unfold BS.Hn;simp only
 obtain⟨l',h1,h2⟩:=Sp (l:=(b.Fq nm l 1).AZ) (e:=⟨b.a.len+1,nm,l⟩);rw[h2,Aq,Bl];have:=h1.length_le;have:=g1.AZ;omega
def Gz.Bf(g:Gz b (n+4*a) o a):Gz b.Bf n (o+a) a:=by have h1:=g.AZ;have h2:=g.AK;have h:=SF (m:=n) (g.rm.le Ab);exact⟨Xk g.ok,h.1,Ab,Ab⟩
def Gz.DK(g:Gz b (n+8*(4*(o+8)+10)) o a):Gz (b.DK nm) n (o+8) (a+8):=by
 refine⟨ZG g.ok,?_,?_,?_⟩<;>unfold BS.DK<;>split
 .unfold BS.KI;split;.exact g.rm.le Ab
  .exact(g.rm.Js (Cl _ _)).le Ab
 .exact(My g.AK g.rm).1
 .have:=g.AK;unfold BS.KI;split;.omega
  .simp only[AB];omega
 .exact(My g.AK g.rm).2
 .have:=g.AZ;unfold BS.KI;split<;>(try simp only)<;>omega
 .have:=g.AZ;have:=Rl (n:=8) (b:=b) (nm:=nm);omega
def Gz.Re(g:Gz b (n+5) o a){r:Int}:Gz (b.Re r) n o a:=⟨tI g.ok,Uz g.rm (XC _),g.AK,g.AZ⟩
def Gz.EL(g:Gz b (n+5) o a){s:Ah}(hs:s.length<=1000){p:Int}:Gz (b.EL s p) n o a:=by
 refine⟨Xi g.ok,?_,g.AK,g.AZ⟩;unfold BS.EL;split;.exact JL g.rm Ab
 .exact JL g.rm Ab
def Gz.GR(g:Gz b (n+1000) o a)(hl:Eb l){h:Int}:Gz (b.GR l h) n o a:=by
 refine⟨jG g.ok,XJ g.rm hl.1,?_,?_⟩<;>unfold BS.GR<;>split;.exact g.AK
 .exact g.AK
 .exact g.AZ
 .exact g.AZ
def Gz.KI(g:Gz b n o a):Gz b.KI n o a:=by
 unfold BS.KI;split;.exact g
 .exact g.Js (Cl _ _)
def Gz.EE(g:Gz b n o a){x:Ah}:Gz (b.EE nm x) n o a:=g.Js (Cs.trans Cs)
def Gz.CA(g:Gz b n o a):Gz b.CA n o a:=by
 unfold BS.CA;split;.exact g.Js (Cs.trans Cs)
 .exact g
def Gz.Dq(g:Gz b n o a):Gz (b.Dq nm) n o a:=by
 unfold BS.Dq;split
 .split;.exact g.Js (Hl.trans Cs)
  .exact g
 .exact g
def Gz.IQ(g:Gz b n o a):Gz b.IQ n o a:=g.eq rfl rfl rfl rfl rfl
def Gz.mark(g:Gz b (n+1) o a):Gz {b with AZ:=b.AZ++[Co.zero]} n o (a+1):=by
 refine⟨yF g.ok,g.rm.oz (e:=Co.zero) Ax (λe he=>?_) ⟨AM,AM,λa ha=>by cases ha⟩,g.AK,?_⟩
 .rcases Ap.1 he with he|he
  .exact .inl he
  .exact .inr (by simpa using he)
 .have:=g.AZ;simp only[Aq,Bl];omega
def Gz.tm(g:Gz b (n+1) o a){m:Int}:Gz {b with tm:=b.tm++[m]} n o a:=by have r:=g.rm;have c:=r.le (m':=n) Ab;exact⟨g.ok.of_eq rfl rfl rfl rfl,⟨c.n,c.at_,c.data,c.AK,c.AZ,by have:=r.tm;simp only[Aq,Bl];omega,c.C7,c.cB⟩,g.AK,g.AZ⟩
def Gz.Dd(g:Gz b n o a):Gz b.Dd n o a:=by
 unfold BS.Dd;split;.exact g
 .exact(g.sub (lo:=DT Db (Be [Bc]) (DT DM Db b.AK)) (lc:=Fx b.AZ) (lt:=b.tm.dropLast) (Cs.trans Cs) (Cl _ _) Ax).IQ
def Gz.EM(g:Gz b (n+4) o a){s:Int}(hl:Eb l)(hn:nm.length<=1000):Gz (b.EM nm l s) n (o+1) a:=(g.MI (sp:=1) hl hn).eq rfl rfl rfl rfl rfl
def Gz.E4(g:Gz b (n+4) o a)(ht:t.Sm):Gz (b.E4 t) n (o+1) a:=g.MI ht.Au ht.name
def Lu(h:nm.length<=1000):(MV nm).Sm:=⟨h,⟨show([]:List A3).length<=1000 by decide,λa ha=>by cases ha⟩,(AM:([]:Ah).length<=1000),show(-2147483648:Int)<=0/\(0:Int)<=2147483647 by decide⟩
def Gz.MC(g:Gz b (n+4) o a)(ht:t.Sm):Gz (b.MC t) n (o+1) a:=(g.E4 ht).KI
def Gz.Oy(g:Gz b (n+1000) o a)(ht:t.Sm):Gz (b.Oy t) n o a:=by
 unfold BS.Oy;split;.exact g.le Ab (Ae _) (Ae _)
 .exact g.GR ht.Au
def Gz.EJ(g:Gz b (n+1004) o a)(ht:t.Sm):Gz (b.EJ t).1 n (o+1) (a+1):=by have g0:Gz b n (o+1) (a+1):=g.le Ab Ab Ab;have d:Gz b (n+4) o a:=g.le Ab Ab Ab;unfold BS.EJ;refine .aL4 g0 (.ite ((g.le (n':=n+5) Ab (Ae _) (Ae _)).Re.le (Ae _) Ab Ab) (.ite (((g.le (n':=n+5) Ab (Ae _) (Ae _)).EL ht.data).le (Ae _) Ab Ab) (.ite (((g.le (n':=n+1000) Ab (Ae _) (Ae _)).Oy ht).le (Ae _) Ab Ab) (.ite ((d.MC ht).le (Ae _) Ab Ab) (.ite ((d.EM ht.Au ht.name).le (Ae _) Ab Ab) (.ite ((d.EM ht.Au ht.name).le (Ae _) Ab Ab) (.ite ((d.EM ht.Au ht.name).le (Ae _) Ab Ab) (.ite (((d.E4 ht).le (Ae _) Ab Ab).eq rfl rfl rfl rfl rfl) (.ite ((d.KI.le Ab Ab Ab).eq rfl rfl rfl rfl rfl) (.ite ?_ (.ite (d.Dd.le Ab Ab Ab) ((d.KI.le Ab Ab Ab).eq (c:={b.KI with mode:=6}) rfl rfl rfl rfl rfl))))))))))));exact((((g.le (n':=n+2+4) Ab (Ae _) (Ae _)).E4 ht).mark.tm (m:=18)).eq rfl rfl rfl rfl rfl)
def Gz.push(g:Gz b (n+1) o a)(c:qD b):Gz {b with AK:=b.AK++[BS.L4 b.head]} n (o+1) a:=by have ZJ:=g.ok.I_ (i:=BS.L4 b.head) (k:=b.AK.length) ⟨c.has,c.kind,c.A6,c.name⟩ c.no;rw[BW,GV] at ZJ;have d:=g.rm.ov (i:=BS.L4 b.head) (l':=b.AK++[BS.L4 b.head]) Ax (λj hj=>by simpa using hj) (AM:(aTB:Ah).length<=1000);exact⟨ZJ,d,by have:=g.AK;simp only[Aq,Bl];omega,g.AZ⟩
def Gz.PD(g:Gz b (n+4*a+5) o a):Gz (b.PD t) n (o+a) a:=by
 have g1:Gz (b.Bf.Re t.r) n (o+a) a:=(g.le (n':=n+5+4*a) Ab (Ae _) (Ae _)).Bf.Re;unfold BS.PD;split;.exact g.le Ab Ab (Ae _)
 .split;.exact g1
  .exact g1.eq rfl rfl rfl rfl rfl
def Gz.TQ(g:Gz b n o a):Gz b.TQ.1 n o a:=by
 unfold BS.TQ;split;.exact(g.sub (lo:=DT Db (Be [Bc]) b.AK) (lc:=Fx b.AZ) (lt:=b.tm.dropLast) Cs (Cl _ _) Ax).IQ
 .exact g.eq rfl rfl rfl rfl rfl
def Gz.Hr(g:Gz b (n+1) o a){m:Int}:Gz (b.Hr m).1 n o a:=by have g1:=(g.sub (lo:=b.AK) (lc:=b.AZ) (lt:=b.tm.dropLast) (AF _) (AF _) Ax).tm (m:=m);exact g1.eq rfl rfl rfl rfl rfl
def Gz.Ep(g:Gz b (n+4*a+1005) o a)(ht:t.Sm):Gz (b.Ep t).1 n (o+a+1) (a+1):=by have g0:Gz b n (o+a+1) (a+1):=g.le Ab Ab Ab;have gf:∀m,Gz (b.Hr m).1 n (o+a+1) (a+1):=λm=>(g.le (n':=n+1) Ab (Ae _) (Ae _)).Hr.le (Ae _) Ab Ab;unfold BS.Ep;exact .ite g0 (.ite ((g.le (n':=n+4*a+5) Ab (Ae _) (Ae _)).PD.le (Ae _) Ab Ab) (.ite (((g.le (n':=n+5) Ab (Ae _) (Ae _)).EL ht.data).le (Ae _) Ab Ab) (.ite g0 (.aHo (((g.le (n':=n+1004) Ab (Ae _) (Ae _)).EJ ht).le (Ae _) Ab Ab) (.ite (gf 9) (.ite (gf 12) (.ite (gf 13) (.ite (gf 14) (.ite (gf 7) (.ite g0 g0.TQ))))))))))
def Gz.block(g:Gz b (n+4) o a)(ht:t.Sm):Gz (b.block t) n (o+1) a:=g.CA.E4 ht
def Gz.N8(g:Gz b (n+4) o a)(ht:t.Sm):Gz (b.N8 t) n (o+1) a:=by
 unfold BS.N8;refine Gz.E4 ?_ ht;split;.exact g.CA.KI
 .exact g.CA
def Gz.Tm(g:Gz b (n+4) o a)(ht:t.Sm):Gz (b.Tm t) n (o+1) a:=(g.block ht).eq rfl rfl rfl rfl rfl
def Gz.XR(g:Gz b (n+4) o a)(ht:t.Sm):Gz (b.XR t) n (o+1) a:=by
 unfold BS.XR;split;.exact g.le Ab Ab (Ae _)
 .simp only;split;.exact g.CA.E4 ht
  .exact(g.CA.E4 ht).eq rfl rfl rfl rfl rfl
def Gz.IU(g:Gz b n o a){ws:List Ah}:Gz (b.IU ws) n o a:=by
 unfold BS.IU;split
 .split;.exact g.EE
  .exact g
 .exact g
def Gz.p9(g:Gz b (n+4) o a)(ht:t.Sm):Gz (b.p9 t) n (o+1) a:=(g.eq (c:={b with fs:=false}) rfl rfl rfl rfl rfl).IU.block ht
def Gz.TR(g:Gz b (n+4*a+4) o a)(ht:t.Sm):Gz (b.TR t) n (o+a+1) a:=by
 have g1:Gz (if b.has [aTC] then b.EE aTC [] else b) (n+4+4*a) o a:=by
  split;.exact g.EE.le Ab (Ae _) (Ae _)
  .exact g.le Ab (Ae _) (Ae _)
 exact(g1.Bf.E4 ht).eq rfl rfl rfl rfl rfl
def Gz.fmt(g:Gz b (n+4*a+5) o a)(ht:t.Sm):Gz (b.fmt t) n (o+a+1) (a+1):=((g.le (n':=n+5+4*a) Ab (Ae _) (Ae _)).Bf.Hn ht.Au ht.name)
def PF{l:List Co}{x:Int}:(BS.JN l x).Sublist l:=by
 unfold BS.JN;split;.exact AF _
 .exact C0
def Gz.ZS(g:Gz b (n+8*(4*(o+8)+10)) o a):Gz b.ZS n (o+8) (a+8):=by
 unfold BS.ZS;simp only;split;.exact g.le Ab Ab Ab
 .exact g.DK.sub Ih PF (Ae _)
def Gz.ee(g:Gz b (n+8*(4*(o+8)+10)+4*(a+8)+5) o a)(ht:t.Sm):Gz (b.ee t) n (o+a+17) (a+9):=
 (Gz.fmt ((g.le (n':=n+4*(a+8)+5+8*(4*(o+8)+10)) Ab (Ae _) (Ae _)).ZS) ht).le (Ae _) Ab (Ae _)
def Gz.ej(g:Gz b (n+8*(4*(o+a+8)+10)+8*a+100) o a)(ht:t.Sm):Gz (b.ej t) n (o+2*a+17) (a+9):=by
 have g1:Gz b.Bf (n+5+4*(a+8)+8*(4*(o+a+8)+10)) (o+a) a:=(g.le Ab (Ae _) (Ae _)).Bf;have g2:Gz (if b.Bf.has [aTZ] then(b.Bf.DK aTZ).Bf else b.Bf) (n+5) (o+a+8+(a+8)) (a+8):=by
  split;.exact g1.DK.Bf
  .exact g1.le Ab Ab Ab
 exact(g2.Hn ht.Au ht.name).le (Ae _) Ab (Ae _)
def Gz.BY(g:Gz b (n+4*a+5) o a)(ht:t.Sm):Gz (b.BY t) n (o+a+1) (a+1):=
 (((g.le (n':=n+1+4+4*a) Ab (Ae _) (Ae _)).Bf.E4 ht).mark).eq rfl rfl rfl rfl rfl
def Gz.Ro(g:Gz b (n+4) o a)(ht:t.Sm):Gz (b.Ro t) n (o+1) a:=by
 have g1:Gz (if(b.a.nd b.CK).CS then b else b.CA) (n+4) o a:=by
  split;.exact g
  .exact g.CA
 exact(g1.E4 ht).eq rfl rfl rfl rfl rfl
def DH.Sm.rn(ht:t.Sm)(h:nm.length<=1000):({t with name:=nm}:DH).Sm:=⟨h,ht.Au,ht.data,ht.r⟩
def Gz.empty(g:Gz b (n+4*a+4) o a)(ht:t.Sm):Gz (b.empty t) n (o+a+1) a:=by
 have d:Gz b (n+4) o a:=g.le Ab (Ae _) (Ae _);have c:Gz b.Bf (n+4) (o+a) a:=(g.le Ab (Ae _) (Ae _)).Bf;unfold BS.empty;split;.exact((d.CA.MC ht).le (Ae _) Ab (Ae _)).eq rfl rfl rfl rfl rfl
 .split;.exact((d.MC ht).le (Ae _) Ab (Ae _)).eq rfl rfl rfl rfl rfl
  .split;.exact(c.MC ht).eq rfl rfl rfl rfl rfl
   .exact(c.MC (ht.rn (by split;exact AM;exact ht.name))).eq rfl rfl rfl rfl rfl
def Gz.raw(g:Gz b (n+4*a+4) o a)(ht:t.Sm):Gz (b.raw t) n (o+a+1) a:=by
 have d:Gz b (n+4) o a:=g.le Ab (Ae _) (Ae _);have e:Gz b.CA.Bf (n+4) (o+a) a:=(g.CA.le Ab (Ae _) (Ae _)).Bf;unfold BS.raw;split;.exact((d.block ht).le (Ae _) Ab (Ae _)).eq rfl rfl rfl rfl rfl
 .split;.exact((d.EM (s:=2) ht.Au ht.name).le (Ae _) Ab (Ae _)).eq rfl rfl rfl rfl rfl
  .split;.exact(e.eq (c:={b.CA.Bf with fs:=false}) rfl rfl rfl rfl rfl).EM ht.Au ht.name
   .split;.exact((d.eq (c:={b with fs:=false}) rfl rfl rfl rfl rfl).EM ht.Au ht.name).le (Ae _) Ab (Ae _)
    .exact(d.EM ht.Au ht.name).le (Ae _) Ab (Ae _)
def Gz.TS(g:Gz b (n+4*a+4) o a)(ht:t.Sm):Gz (b.TS t) n (o+a+1) a:=
 ((g.le (n':=n+4+4*a) Ab (Ae _) (Ae _)).Bf.E4 ht).eq rfl rfl rfl rfl rfl
def Gz.TT(g:Gz b (n+4*a+4) o a)(ht:t.Sm):Gz (b.TT t) n (o+a+1) a:=by
 have g1:Gz (if Be [aTT] (E3 b.AK) then b.KI else b) (n+4+4*a) o a:=by
  split;.exact g.KI.le Ab (Ae _) (Ae _)
  .exact g.le Ab (Ae _) (Ae _)
 exact g1.Bf.E4 ht
def Gz.qC(g:Gz b (n+4) o a)(ht:t.Sm):Gz (b.qC t) n (o+1) a:=by
 unfold BS.qC;refine Gz.E4 ?_ ht;split;.exact g.Js Cs
 .exact g
def Gz.N9(g:Gz b (n+4*a+4) o a)(ht:t.Sm):Gz (b.N9 t) n (o+a+1) a:=by
 have g1:=(g.le (n':=n+4+4*a) Ab (Ae _) (Ae _)).Bf.MI (sp:=if t.name=aU4 then 3 else 2) ht.Au ht.name;unfold BS.N9;simp only;split;.exact g1.KI
 .exact g1
def UD(h:b.Ld=true):DJ b.AK 1∈b.AK:=by unfold BS.Ld at h;simp only[AN,B0] at h;exact Kg AM (by have:=h.1;omega)
def kN{x:Int}:MS b.a (b.a.cut x):=by
 unfold Ar.cut;simp only;split;.exact .refl
 .exact MS.trans TB TC
def Gz.Kl(g:Gz b (n+4) o a)(ht:t.Sm):Gz (b.Kl t) n (o+1) a:=by
 unfold BS.Kl;split;.exact g.le Ab Ab (Ae _)
 .rename_i h;have h2:b.Ld=true:=by
   cases hs:b.Ld;.exact absurd (.inl hs) h
   .rfl
  have hi:=g.ok.op _ (UD h2);have g1:Gz {b with a:=b.a.cut (DJ b.AK 1).node} (n+4) o a:=⟨g.ok.I8 (bW g.ok.ok hi.1 (by rw[hi.2.1];decide)) oP,g.rm.I8 kN,g.AK,g.AZ⟩;exact((g1.Js (lo:=b.AK.take 1) (Cl _ _)).E4 ht).eq rfl rfl rfl rfl rfl
def Gz.Rn(g:Gz b (n+1000) o a)(ht:t.Sm):Gz (b.Rn t) n o a:=by
 have g0:Gz b n o a:=g.le Ab (Ae _) (Ae _);unfold BS.Rn;split;.exact g0
 .split;.exact g.GR ht.Au
  .split;.exact(g.eq (c:={b with fs:=false}) rfl rfl rfl rfl rfl).GR ht.Au
   .exact g0
def Gz.opens(g:Gz b (n+8*(4*(o+a+8)+10)+8*a+2000) o a)(ht:t.Sm):Gz (b.opens t).1 n (o+2*a+17) (a+9):=by
 have ge:∀{m},m<=n+8*(4*(o+a+8)+10)+8*a+2000->Gz b m o a:=λh=>g.le h (Ae _) (Ae _);unfold BS.opens;exact .ite (((ge Ab).EJ ht).le (Ae _) Ab Ab)
  (.ite (((ge Ab).block ht).le (Ae _) Ab Ab)
  (.ite (((ge Ab).N8 ht).le (Ae _) Ab Ab)
  (.ite (((ge Ab).Tm ht).le (Ae _) Ab Ab)
  (.ite (((ge Ab).fmt ht).le (Ae _) Ab Ab)
  (.ite (((ge Ab).BY ht).le (Ae _) Ab Ab)
  (.ite (((ge Ab).empty ht).le (Ae _) Ab Ab)
  (.ite (ge (m:=n) Ab |>.le (Ae _) Ab Ab)
  (.ite (((ge Ab).raw ht).le (Ae _) Ab Ab)
  (.ite (((ge Ab).qC ht).le (Ae _) Ab Ab)
  (.ite (((ge Ab).N9 ht).le (Ae _) Ab Ab)
  (.ite (((ge Ab).p9 ht).le (Ae _) Ab Ab)
  (.ite (((ge Ab).TT ht).le (Ae _) Ab Ab)
  (.ite (((ge Ab).Rn ht).le (Ae _) Ab Ab)
  (.ite (((ge Ab).Kl ht).le (Ae _) Ab Ab)
  (.ite (((ge Ab).XR ht).le (Ae _) Ab Ab)
  (.ite (((ge Ab).TR ht).le (Ae _) Ab Ab)
  (.ite (((ge Ab).ee ht).le (Ae _) Ab Ab)
  (.ite (((ge Ab).ej ht).le (Ae _) Ab Ab)
  (.ite (((ge Ab).Ro ht).le (Ae _) Ab Ab)
  (.ite (((ge Ab).TS ht).le (Ae _) Ab Ab)
  (((ge (m:=n+4+4*a) Ab).Bf.E4 ht).le (Ae _) Ab Ab)))))))))))))))))))))
def Gz.JO(g:Gz b n o a):Gz (b.JO t) n o a:=by
 unfold BS.JO;split;.exact g.EE
 .exact g
def Gz.Ob(g:Gz b (n+4) o a):Gz (b.Ob t) n (o+1) a:=by
 have g0:Gz b n (o+1) a:=g.le Ab Ab (Ae _);unfold BS.Ob;dsimp only;generalize b.Oz _ _=q;cases q
 .by_cases h:t.name=[112];.simp only[Ck,DU,Af h];exact(g.E4 (Lu (nm:=[112]) (AM:([112]:Ah).length<=1000))).EE
  .simp only[Ck,DU,Ad h];exact g0
 .exact g0.EE
def Gz.L5(g:Gz b (n+8*(4*(o+a+8)+10)+8*a+2000) o a)(ht:t.Sm):Gz (b.L5 t).1 n (o+2*a+17) (a+9):=by
 have ge:∀{m},m<=n+8*(4*(o+a+8)+10)+8*a+2000->Gz b m o a:=λh=>g.le h (Ae _) (Ae _);have g0:Gz b n (o+2*a+17) (a+9):=g.le Ab Ab Ab;unfold BS.L5;refine .ite (((ge Ab).EJ ht).le (Ae _) Ab Ab)
  (.ite ?_ (.ite g0.JO (.ite (((ge (m:=n+8*(4*(o+8)+10)) Ab).DK).le (Ae _) Ab Ab)
  (.ite ?_ (.ite ?_ (.ite (((ge (m:=n+4) Ab).Ob).le (Ae _) Ab Ab) (.ite ?_
  (.ite (((ge (m:=n+4*a+4) Ab).empty (Lu (nm:=[98,114]) AM)).le (Ae _) Ab Ab) g0.Dq))))))))
 .unfold BS.SM;split;.exact g0.eq rfl rfl rfl rfl rfl
  .exact g0
 .unfold BS.Oa;split;.exact g0.Js (Cs.trans Cs)
  .exact g0
 .unfold BS.Qf;split;.exact(g0.sub (lo:=(b.EE t.name []).AK) (lc:=Fx b.AZ) (lt:=b.tm) (Cs.trans Cs) (Cl _ _) (Ae _)).eq rfl rfl rfl rfl rfl
  .exact g0
 .unfold BS.Vz;split;.exact g0.JO
  .split;.exact(g0.Js (lo:=Dt b.HP (DT (Eu []) Db b.AK)) (Ih.trans Cs)).eq rfl rfl rfl rfl rfl
   .exact g0.eq rfl rfl rfl rfl rfl
def Gz.E5(g:Gz b (n+8*(4*(o+a+8)+10)+8*a+2000) o a)(ht:t.Sm):Gz (b.E5 t).1 n (o+2*a+17) (a+9):=by
 have ge:∀{m},m<=n+8*(4*(o+a+8)+10)+8*a+2000->Gz b m o a:=λh=>g.le h (Ae _) (Ae _);have g0:Gz b n (o+2*a+17) (a+9):=g.le Ab Ab Ab;unfold BS.E5;exact .ite g0 (.ite (((ge (m:=n+4*a+5) Ab).PD).le (Ae _) Ab Ab)
  (.ite (((ge (m:=n+5) Ab).EL ht.data).le (Ae _) Ab Ab)
  (.ite (.ite (((ge (m:=n+4*a+1005) Ab).Ep ht).le (Ae _) Ab Ab) (g0.eq rfl rfl rfl rfl rfl))
  (.ite (g.opens ht) (.ite (g.L5 ht) g0)))))
def Gz.ZR(g:Gz b (n+1) o a):Gz (b.ZR t) n o a:=by
 have hd:=g.ok.CK;have hx:sY {kind:=3,CK:=b.CK,name:=t.name,JV:=t.JV,sys:=t.sys}:=by constructor<;>simp[C8,Gw,fB]
 have ZJ:=Rc g.ok.ok hx (.inr ⟨Ax,hd⟩) rfl rfl rfl rfl (λh=>absurd h.1 (AM:¬(3:Int)=4));refine⟨g.ok.I8 (P4 ZJ) (Xh.trans P6),?_,g.AK,g.AZ⟩;exact(g.rm.FH (KJ (y:={kind:=3,CK:=b.CK,name:=t.name,JV:=t.JV,sys:=t.sys}) Ax Ax)).I8 Kh
end
def F9(h:Ai)(F:Nat->Prop)(f:FuncId)(args:List Aa)(r:Aa)(bi:Nat)(b':BS):Prop:=∃h' F',B9 cx f args h r h'/\PB h' bi b' F'/\Ew h F h' F'
abbrev B1(t:DH)(av:Aa):List Aa:=[I t.k,.str t.name,.bool t.hn,.str t.JV,.bool t.hp,.str t.sys,.bool t.hs,.bool t.q,av,.bool t.sc,.str t.data,.int .i32 t.r]
section
variable{h h':Ai}{bi:Nat}{b b':BS}{F:Nat->Prop}{n o a:Nat}{t:DH}{av:Aa}
def PG:Xy t.name av (B1 t av):=⟨_,_,_,_,_,_,_,_,_,_,rfl⟩
def ES(w:PB h bi b F)(g:Gz b (n+4) o a)(ht:t.Sm)(hv:Bb t.Au av):F9 h F 42 [Pt bi 0,.agg (B1 t av)] (I (b.OF 1)) bi (b.E4 t):=by obtain⟨d,f,c,tt,G,w,hc,rfl⟩:=w;obtain⟨h',o',e,r,w',x⟩:=tz (m:=n) w g.ok g.rm PG hv ht.Au ht.name;exact⟨h',_,r,⟨d,o',c,tt,e,w',by unfold BS.E4;rw[FU];exact hc,rfl⟩,x⟩
def eE(w:PB h bi b F)(g:Gz b (n+4) o a)(ht:t.Sm)(hv:Bb t.Au av)(sp:Int):F9 h F 53 [Pt bi 0,.agg (B1 t av),I sp] (I (b.OF sp)) bi (b.Fq t.name t.Au sp):=by obtain⟨d,f,c,tt,G,w,hc,rfl⟩:=w;obtain⟨h',o',e,r,w',x⟩:=aCN (m:=n) w g.ok g.rm PG hv ht.Au ht.name sp;exact⟨h',_,r,⟨d,o',c,tt,e,w',by rw[FU];exact hc,rfl⟩,x⟩
def uz(w:PB h bi b F)(g:Gz b (n+5) o a)(ht:t.Sm)(hv:Bb t.Au av):F9 h F 54 [Pt bi 0,.agg (B1 t av)] (I (b.a.len+1)) bi (b.Hn t.name t.Au):=by obtain⟨d,f,c,tt,G,w,hc,rfl⟩:=w;obtain⟨h',o',c',e,r,w',Ns,x⟩:=aGD (m:=n) w hc g.ok g.rm PG hv ht.Au ht.name;exact⟨h',_,r,⟨d,o',c',tt,e,w',Ns,rfl⟩,x⟩
def XS(w:PB h bi b F)(g:Gz b (n+5) o a){r:Int}(hr: -2147483648<=r/\r<=2147483647):F9 h F 55 [Pt bi 0,.int .i32 r] (.tuple []) bi (b.Re r):=by obtain⟨e,d,c,tt,G,w,hc,rfl⟩:=w;obtain⟨h',f,r,w',x⟩:=aGJ (m:=n) w g.ok g.rm r hr;exact⟨h',_,r,⟨e,d,c,tt,f,w',hc,rfl⟩,x⟩
def LC(w:PB h bi b F)(g:Gz b (n+1) o a){s:Ah}(hs:s.length<=100000)(x:Int):F9 h F 38 [Pt bi 0,.str s,I x] (.tuple []) bi (b.EL s x):=by obtain⟨e,d,c,tt,G,w,hc,rfl⟩:=w;obtain⟨h',f,r,w',x⟩:=aGK (m:=n) w g.ok g.rm s hs x;exact⟨h',_,r,⟨e,d,c,tt,f,w',hc,rfl⟩,x⟩
def XT(w:PB h bi b F)(g:Gz b (n+4) o a)(ht:t.Sm)(hv:Bb t.Au av)(s:Int):F9 h F 56 [Pt bi 0,.agg (B1 t av),I s] (.tuple []) bi (b.EM t.name t.Au s):=by obtain⟨d,f,c,tt,G,w,hc,rfl⟩:=w;obtain⟨h',o',e,r,w',x⟩:=aGL (m:=n) w g.ok g.rm PG hv ht.Au ht.name s;exact⟨h',_,r,⟨d,o',c,tt,e,w',by show Di (b.Fq t.name t.Au 1).AZ c;rw[FU];exact hc,rfl⟩,x⟩
def IV(w:PB h bi b F)(g:Gz b n o a):F9 h F 57 [Pt bi 0] (.tuple []) bi b.CA:=by obtain⟨d,f,c,tt,G,w,hc,rfl⟩:=w;obtain⟨h',o',r,w',x⟩:=aGM w g.rm;exact⟨h',_,r,⟨d,o',c,tt,G,w',by have e:b.CA.AZ=b.AZ:=(by unfold BS.CA;split<;>rfl);rw[e];exact hc,rfl⟩,x⟩
def CW(w:PB h bi b F)(g:Gz b (n+4*a) o a):F9 h F 41 [Pt bi 0] (.tuple []) bi b.Bf:=by obtain⟨d,f,c,tt,G,w,hc,rfl⟩:=w;obtain⟨h',o',c',e,r,w',Ns,x⟩:=aGZ (m:=n) w hc g.ok (g.rm.le (by have:=g.AZ;omega));exact⟨h',_,r,⟨d,o',c',tt,e,w',Ns,rfl⟩,x⟩
def u_(w:PB h bi b F)(g:Gz b n o a)(nm:Ah):F9 h F 44 [Pt bi 0,.str nm] (.tuple []) bi (b.Dq nm):=by obtain⟨d,f,c,tt,G,w,hc,rfl⟩:=w;obtain⟨h',o',r,w',x⟩:=aCQ w g.rm nm;exact⟨h',_,r,⟨d,o',c,tt,G,w',by have e:(b.Dq nm).AZ=b.AZ:=(by unfold BS.Dq;split;split<;>rfl;rfl);rw[e];exact hc,rfl⟩,x⟩
def ø(w:PB h bi b F)(g:Gz b n o a):F9 h F 59 [Pt bi 0] (.tuple []) bi b.IQ:=by obtain⟨e,d,c,tt,G,w,hc,rfl⟩:=w;obtain⟨h',r,w',x⟩:=ug w g.rm;exact⟨h',_,r,⟨e,d,c,tt,G,w',hc,rfl⟩,x⟩
def yK(w:PB h bi b F)(g:Gz b (n+1000) o a)(ht:t.Sm)(hv:Bb t.Au av)(x:Int):F9 h F 60 [Pt bi 0,.agg (B1 t av),I x] (.tuple []) bi (b.GR t.Au x):=by obtain⟨f,d,c,tt,G,w,hc,rfl⟩:=w;obtain⟨h',i,r,w',x⟩:=aGS (m:=n) w g.ok g.rm PG hv ht.Au x;exact⟨h',_,r,⟨f,d,c,tt,i,w',by have e:∀y,(b.GR t.Au y).AZ=b.AZ:=(λy=>by unfold BS.GR;split<;>rfl);rw[e];exact hc,rfl⟩,x⟩
def aDc(w:PB h bi b F)(g:Gz b n o a):F9 h F 61 [Pt bi 0] (.tuple []) bi b.Dd:=by obtain⟨d,e,c,tt,G,w,hc,rfl⟩:=w;obtain⟨h',o',c',t',r,w',Ns,x⟩:=aGT w hc g.rm;exact⟨h',_,r,⟨d,o',c',t',G,w',Ns,rfl⟩,x⟩
def va(w:PB h bi b F):F9 h F 39 [Pt bi 0] (.tuple []) bi {b with stop:=true}:=by obtain⟨e,d,c,tt,G,w,hc,rfl⟩:=w;obtain⟨h',r,w',x⟩:=aGW w;exact⟨h',_,r,⟨e,d,c,tt,G,w',hc,rfl⟩,x⟩
def XU(w:PB h bi b F)(g:Gz b (n+8*(4*(o+8)+10)) o a)(nm:Ah):F9 h F 58 [Pt bi 0,.str nm] (.tuple []) bi (b.DK nm):=by obtain⟨d,f,c,tt,G,w,hc,rfl⟩:=w;obtain⟨h',o',c',e,r,w',Ns,x⟩:=aHe (m:=n) w hc g.ok (g.rm.le (by have:=g.AK;omega)) nm;exact⟨h',_,r,⟨d,o',c',tt,e,w',Ns,rfl⟩,x⟩
def OA(w:PB h bi b F)(g:Gz b n o a):F9 h F 64 [Pt bi 2] (.agg b.cj.row) bi b.KI:=by obtain⟨d,f,c,tt,G,w,hc,rfl⟩:=w;obtain⟨h',o',r,w',x⟩:=aCS w g.rm;exact⟨h',_,r,⟨d,o',c,tt,G,w',by have e:b.KI.AZ=b.AZ:=(by unfold BS.KI;split<;>rfl);rw[e];exact hc,rfl⟩,x⟩
def vd(w:PB h bi b F)(g:Gz b n o a):F9 h F 62 [Pt bi 3] (.tuple []) bi {b with AZ:=b.AZ++[Co.zero]}:=by obtain⟨e,d,c,tt,G,w,hc,rfl⟩:=w;have X7:=g.rm.AZ;obtain⟨fs,Jy,Qi⟩:=hc;obtain⟨u,r2,hu⟩:=f63 (h:=h) (id:=bi) (o:=3) (l:=fs) ⟨c,w.pO,Qi⟩ (by rw[<-Jy,Av] at X7;omega);exact⟨_,_,r2,⟨e,d,u,tt,G,w.Qm (u:=u) (l:=b.AZ++[Co.zero]),⟨_,by rw[BU,Jy];rfl,hu⟩,rfl⟩,BL⟩
def yL(w:PB h bi b F)(g:Gz b n o a):∃r,F9 h F 65 [Pt bi 3] r bi {b with AZ:=Fx b.AZ}:=by obtain⟨e,d,c,tt,G,w,hc,rfl⟩:=w;have X7:=g.rm.AZ;obtain⟨fs,Jy,Qi⟩:=hc;obtain⟨u,r2,hu⟩:=f65 (h:=h) (id:=bi) (o:=3) (l:=fs) ⟨c,w.pO,Qi⟩ (by rw[<-Jy,Av] at X7;omega);exact⟨_,_,_,r2,⟨e,d,u,tt,G,w.Qm (u:=u) (l:=Fx b.AZ),⟨_,by rw[dR,Jy],hu⟩,rfl⟩,BL⟩
def eF(w:PB h bi b F)(g:Gz b n o a){v:Aa}{ws:List Ah}(hw:HN ws v)(hn:ws.length<=1000000000):∃r,F9 h F 66 [Pt bi 2,v] r bi {b with AK:=DT Db (Be ws) b.AK}:=by obtain⟨d,e,c,tt,G,w,hc,rfl⟩:=w;have ho:=g.rm.AK;obtain⟨u,r2,hu⟩:=f66 w.sO Ab hw hn;exact⟨_,_,_,r2,⟨d,u,c,tt,G,w.MU hu,hc,rfl⟩,BL⟩
def LD(w:PB h bi b F)(g:Gz b n o a)(s:Ah):∃r,F9 h F 134 [Pt bi 2,.str s] r bi {b with AK:=DT (Eu s) Db b.AK}:=by obtain⟨d,e,c,tt,G,w,hc,rfl⟩:=w;have ho:=g.rm.AK;obtain⟨u,r2,hu⟩:=aCD w.sO Ab s;exact⟨_,_,_,r2,⟨d,u,c,tt,G,w.MU hu,hc,rfl⟩,BL⟩
def XV(w:PB h bi b F)(g:Gz b n o a)(x:Int):∃r,F9 h F 186 [Pt bi 2,I x] r bi {b with AK:=Dt x b.AK}:=by obtain⟨d,e,c,tt,G,w,hc,rfl⟩:=w;have ho:=g.rm.AK;obtain⟨u,r2,hu⟩:=Ü w.sO Ab x;exact⟨_,_,_,r2,⟨d,u,c,tt,G,w.MU hu,hc,rfl⟩,BL⟩
def aDd(w:PB h bi b F)(g:Gz b n o a)(i:Item):F9 h F 145 [Pt bi 2,.agg i.row] (.tuple []) bi {b with AK:=b.AK++[i]}:=by obtain⟨d,e,c,tt,G,w,hc,rfl⟩:=w;have ho:=g.rm.AK;obtain⟨u,r2,hu⟩:=f95 w.sO Ab i;exact⟨_,_,r2,⟨d,u,c,tt,G,w.MU hu,hc,rfl⟩,BL⟩
def PB.sA(w:PB h bi b F):bg h (Pt bi 2) b.AK:=by obtain⟨e,d,c,tt,G,w,hc,rfl⟩:=w;exact w.sA
def PB.LL(w:PB h bi b F):∃x,Bj h none (Pt bi 0)=some (Pt x 0):=by obtain⟨d,e,c,tt,G,w,hc,rfl⟩:=w;exact⟨d,w.l0⟩
def PB.Ce(w:PB h bi b F):Bj h none (Pt bi 1)=some (I b.CK)/\Bj h none (Pt bi 4)=some (I b.mode)/\Bj h none (Pt bi 5)=some (I b.OE)/\Bj h none (Pt bi 7)=some (I b.head)/\Bj h none (Pt bi 8)=some (I b.HP)/\Bj h none (Pt bi 14)=some (.bool b.fs)/\Bj h none (Pt bi 18)=some (I b.sw)/\Bj h none (Pt bi 19)=some (.bool b.stop):=by obtain⟨e,d,c,tt,G,w,hc,rfl⟩:=w;exact⟨w.ld 1,w.ld 4,w.ld 5,w.ld 7,w.ld 8,w.ld 14,w.ld 18,w.ld 19⟩
def PB.ltm(w:PB h bi b F):∃v,Bj h none (Pt bi 6)=some v/\GI b.tm v:=by obtain⟨e,d,c,tt,G,w,hc,rfl⟩:=w;exact⟨tt,w.l6,w.t⟩
def SO(w:PB h bi b F)(g:Gz b n o a)(s:Int){v:Aa}{ws:List Ah}(hv:HN ws v)(hw:ws.length<=1000000000):B9 cx 154 [Pt bi 2,I s,v] h (.bool (b.Oz s (Be ws))) h:=
 aFT w.sA (by have:=g.rm.AK;omega) s hv hw
def kO(w:PB h bi b F)(g:Gz b n o a)(s x:Int):B9 cx 205 [Pt bi 2,I s,I x] h (.bool (b.Oz s (BQ x))) h:=
 aFU w.sA (by have:=g.rm.AK;omega) s x
def aDe(w:PB h bi b F)(g:Gz b n o a)(s:Ah):B9 cx 162 [Pt bi 2,.str s] h (I (AX (Be [s]) b.AK)) h:=
 f144 w.sA (by have:=g.rm.AK;omega) s
def ù(w:PB h bi b F)(i:Int):B9 cx 132 [Pt bi 2,I i] h (.agg (DJ b.AK i).row) h:=U7 w.sA i
def XW(w:PB h bi b F):B9 cx 131 [Pt bi 2] h (I (b.AK.length:Int)) h:=TG w.sA
def kP(w:PB h bi b F)(g:Gz b n o a):B9 cx 155 [Pt bi 0] h (.agg (E3 b.AK).row) h:=by obtain⟨e,d,c,tt,G,w,hc,rfl⟩:=w;exact aCL w g.rm
def Wr(h:Ai)(F:Nat->Prop)(bi k:Nat)(v:Aa)(b':BS):Prop:=CL h 1 (Pt bi k) v=some (put h bi k v)/\PB (put h bi k v) bi b' F/\Ew h F (put h bi k v) F
def Gd(w:PB h bi b F)(v:Int):Wr h F bi 4 (I v) {b with mode:=v}:=by obtain⟨e,d,c,tt,G,w,hc,rfl⟩:=w;exact⟨w.st (k:=4) rfl rfl,⟨e,d,c,tt,G,w.put rfl rfl w.o w.t,hc,rfl⟩,BL⟩
def ve(w:PB h bi b F)(v:Int):Wr h F bi 7 (I v) {b with head:=v}:=by obtain⟨e,d,c,tt,G,w,hc,rfl⟩:=w;exact⟨w.st (k:=7) rfl rfl,⟨e,d,c,tt,G,w.put rfl rfl w.o w.t,hc,rfl⟩,BL⟩
def eH(w:PB h bi b F)(v:Int):Wr h F bi 8 (I v) {b with HP:=v}:=by obtain⟨e,d,c,tt,G,w,hc,rfl⟩:=w;exact⟨w.st (k:=8) rfl rfl,⟨e,d,c,tt,G,w.put rfl rfl w.o w.t,hc,rfl⟩,BL⟩
def KR(w:PB h bi b F)(v:Bool):Wr h F bi 14 (.bool v) {b with fs:=v}:=by obtain⟨e,d,c,tt,G,w,hc,rfl⟩:=w;exact⟨w.st (k:=14) rfl rfl,⟨e,d,c,tt,G,w.put rfl rfl w.o w.t,hc,rfl⟩,BL⟩
def vf(w:PB h bi b F)(v:Bool):Wr h F bi 17 (.bool v) {b with skip:=v}:=by obtain⟨e,d,c,tt,G,w,hc,rfl⟩:=w;exact⟨w.st (k:=17) rfl rfl,⟨e,d,c,tt,G,w.put rfl rfl w.o w.t,hc,rfl⟩,BL⟩
def aL6(w:PB h bi b F)(v:Int):Wr h F bi 18 (I v) {b with sw:=v}:=by obtain⟨e,d,c,tt,G,w,hc,rfl⟩:=w;exact⟨w.st (k:=18) rfl rfl,⟨e,d,c,tt,G,w.put rfl rfl w.o w.t,hc,rfl⟩,BL⟩
def aL7(w:PB h bi b F){v:Aa}{l:List Int}(hv:GI l v):Wr h F bi 6 v {b with tm:=l}:=by obtain⟨e,d,c,tt,G,w,hc,rfl⟩:=w;exact⟨w.st (k:=6) (v0:=tt) rfl (Bv.cells hv),⟨e,d,c,v,G,w.ui hv,hc,rfl⟩,BL⟩
end
def No(c:UInt8):Bool:=decide ((9<=c.toNat/\c.toNat<=13)\/c.toNat=32)
def wf:Ah->Ah->List Ah
 |cur,[]=>if cur=[] then[] else[cur]
 |cur,c::r=>if No c then(if cur=[] then wf [] r else cur::wf [] r) else wf (cur++[c]) r
def eI:Bool->Ah->Nat
 |_,[]=>0
 |w,c::r=>(if w&& !No c then 1 else 0)+eI (No c) r
def yM(b:Bool):Int:=if b then 1 else 0
def TU:∀{s cur:Ah},(wf cur s).length=(if cur=[] then 0 else 1)+eI (decide (cur=[])) s
 |[],cur=>by unfold wf eI;split<;>simp_all
 |c::r,cur=>by
  unfold wf eI;by_cases hc:No c=true
  .by_cases h0:cur=[];.simp[hc,h0,TU (s:=r) (cur:=[])]
   .simp[hc,h0,TU (s:=r) (cur:=[])];omega
  .have Ns:No c=false:=by simpa using hc
   by_cases h0:cur=[];.simp[Ns,h0,TU (s:=r) (cur:=[c])]
   .simp[Ns,h0,TU (s:=r) (cur:=cur++[c])]
def yN:∀{s cur:Ah},(wf cur s).length<=s.length+1
 |[],cur=>by unfold wf;split<;>simp
 |c::r,cur=>by
  unfold wf;have h1:=yN (s:=r) (cur:=[]);have h2:=yN (s:=r) (cur:=cur++[c]);split;.split<;>simp only[AJ]<;>omega
  .simp only[AJ];omega
def yO{c:UInt8}(k:Option Nat)(hk:k=none){h:Ai}:∃v,Az (.T1 256 1) [.BR GH,.int .u8 (c.toNat:Int)]=some v/\Bj h k v=some (.int .u8 (yM (No c))):=by
 subst hk;have key:∀n:Nat,n<256->GH[n]?=some (.int .u8 (yM (decide ((9<=n/\n<=13)\/n=32)))):=by intro n hn;have h1:∀n,n<256->Nb[n]?=some (yM (decide ((9<=n/\n<=13)\/n=32))):=Cz;rw[GH,Cd,h1 n hn];rfl
 have hc:=c.toNat_lt;have hi:LH (c.toNat:Int) 256=some c.toNat:=by unfold LH;rw[Af Ab];rfl
 refine⟨.BR (GH.drop (c.toNat*1)),by simp[Az,hi,VC],?_⟩;rw[WK,Gr,Cp,FW,Bk,key _ hc];rfl
def aDf{s c:Nat}(hs:s<128)(hc:c<128):∃n:Nat,n<128/\Az (.int .or) [.int .u8 (s:Int),.int .u8 (c:Int)]=some (.int .u8 (n:Int)):=by
 have key:∀s:Nat,s<128->∀c:Nat,c<128->(match Az (.int .or) [.int .u8 (s:Int),.int .u8 (c:Int)] with|some (.int .u8 n)=>decide (0<=n/\n<128)|_=>false)=true:=Cz;have h1:=key s hs c hc;split at h1;.rename_i n hv;have:=Cq h1;exact⟨n.toNat,Ab,by rw[hv,HX this.1]⟩
 .cases h1
def aDg(w i:Bool):∃v,Az (.un .xor) [I (yM i)]=some v/\Az (.int .and) [I (yM w),v]=some (I (if w&& !i then 1 else 0)):=by cases w<;>cases i<;>exact⟨_,rfl,rfl⟩
def aDh(i:Bool):IntKind.i64.wrap (yM i)=yM i:=by cases i<;>rfl
def yP{U:Type}(l:List U)(x y:U)(r:List U){k:Nat}(hk:k=l.length):(l++y::r).take k++[x]++(l++y::r).drop (k+1)=l++x::r:=by subst hk;simp
def aHp(s:Ah)(hs:s.length<=1000000)(ha:∀c∈s,c.toNat<128)(h:Ai):B9 cx 253 [.str s] h (.sl 1 ((wf [] s).map Ca)) (h++[.DF]):=by
 have xi:AO=140737488355328:=rfl;have O:=yN (s:=s) (cur:=[]);obtain⟨N,hNe⟩:∃N,N=(wf [] s).length:=⟨_,rfl⟩;rw[Ag,xA,aCm];refine En (i:=0) (λz:Nat×Bool×Nat×Nat=>[I (z.1:Int),I (yM z.2.1),.int .u8 (z.2.2.1:Int),I (z.2.2.2:Int)]) (λz h1=>h1=h/\z.2.2.2<=s.length/\z.2.2.1<128/\z.1+eI z.2.1 (s.drop z.2.2.2)=eI true s) (λz=>s.length-z.2.2.2) (λz h1=>h1=h/\z.2.2.1<128/\z.1=N) (0,true,0,0) rfl ⟨rfl,A7 _,AM,Ax⟩ ?_ ?_
 .rintro⟨n,w,bits,i⟩ h1 ⟨rfl,hi,hb,hn⟩;simp only at hi hb hn;rcases Bi i s.length with hlt|GX
  .obtain⟨bits',S4,y⟩:=aDf hb (ha _ (AY hlt));obtain⟨v,J,H⟩:=yO (c:=s[i]) none rfl (h:=h1);obtain⟨v2,p,d⟩:=aDg w (No s[i]);have M:eI true s<=s.length+1:=by have:=TU (s:=s) (cur:=[]);simp at this;omega
   rw[Ay hlt,eI] at hn;have u:=Vo (a:=(n:Int)) (b:=if w&& !No s[i] then 1 else 0) (by split<;>omega) (by split<;>omega);have t:((n:Int)+if(w&& !No s[i])=true then 1 else 0)=((n+if(w&& !No s[i])=true then 1 else 0:Nat):Int):=by split<;>simp
   simp only[abS,(Ab:(i:Int)<(s.length:Int)),Gs hlt,y,J,H,Vm,aDh,p,d,u,t,CI (Ab:i<9223372036854775807)];exact .next (_,No s[i],bits',i+1) rfl ⟨rfl,hlt,S4,Gx⟩ Gx
  .simp only[abS,(Ab:¬(i:Int)<(s.length:Int))];refine .HM (n,w,bits,i) rfl ⟨rfl,hb,?_⟩;rw[AT GX,eI] at hn;have:=TU (s:=s) (cur:=[]);simp at this;simp only;omega
 rintro⟨n,w,bits,i⟩ h1 ⟨rfl,hb,hn⟩;simp only at hb hn;subst hn;have y:RB h1 1 16 [S []] (I (n:Int)) (I (n:Int))=some (h1++[.cells (List.replicate n [S []]).flatten],.C3 h1.length 0 n 1):=by simp only[RB];rw[Af ⟨Ab,Ab,Ei,rfl⟩];simp
 have J:(List.replicate n [S []]).flatten=List.replicate n (S []):=by
  clear y hNe O;induction n with
  |zero=>rfl
  |succ n ih=>rw[Kp,CH,ih];rfl
 rw[J] at y;have H:¬(128:Int)<=(bits:Int):=Ab;simp only[abS,H];refine mC y ?_;refine En (i:=2) (λi:Nat=>[I (i:Int)]) (λi h2=>h2=h1++[.cells (List.replicate n (S []))]/\i<=s.length/\wf [] s=wf [] (s.drop i)) (λi=>s.length-i) (λi h2=>h2=h1++[.cells (List.replicate n (S []))]/\i<=s.length/\wf [] s=wf [] (s.drop i)/\∀hi:i<s.length,No s[i]=false) 0 rfl ⟨rfl,A7 _,rfl⟩ ?_ ?_
 .rintro i h2 ⟨rfl,hi,hw⟩;rcases Bi i s.length with hlt|GX
  .obtain⟨v,p,d⟩:=yO (c:=s[i]) none rfl (h:=h1++[.cells (List.replicate n (S []))]);cases hsp:No s[i] with
   |true=>rw[hsp] at d;simp only[abS,(Ab:(i:Int)<(s.length:Int)),Gs hlt,p,d,yM,↓reduceIte,(AM:(1:Int)≠0),Cy,CI (Ab:i<9223372036854775807)];rw[Ay hlt,wf,hsp] at hw;exact .next (i+1) rfl ⟨rfl,hlt,by simpa using hw⟩ Ab
   |false=>rw[hsp] at d;simp only[abS,(Ab:(i:Int)<(s.length:Int)),Gs hlt,p,d,yM,Ck,↓reduceIte,Cy];exact .HM i rfl ⟨rfl,hi,hw,λ_=>hsp⟩
  .simp only[abS,(Ab:¬(i:Int)<(s.length:Int))];exact .HM i rfl ⟨rfl,hi,hw,λh=>absurd h Ab⟩
 rintro i0 h2 ⟨rfl,ķ,C,fx⟩;simp only[Cf];refine En (i:=4) (λz:List Ah×Nat×Nat=>[I (z.1.length:Int),I (z.2.1:Int),I (z.2.2:Int)]) (λz h2=>h2=h1++[.cells (z.1.map Aa.str++List.replicate (n-z.1.length) (S []))]/\z.2.1<=z.2.2/\z.2.2<=s.length/\z.1++wf ((s.take z.2.2).drop z.2.1) (s.drop z.2.2)=wf [] s/\(z.2.1=z.2.2->∀hi:z.2.2<s.length,No s[z.2.2]=false)) (λz=>s.length-z.2.2)
  (λz h2=>h2=h1++[.cells (z.1.map Aa.str++List.replicate (n-z.1.length) (S []))]/\z.2.1<=s.length/\z.1++wf (s.drop z.2.1) []=wf [] s) ([],i0,i0) rfl ⟨Ax,Ae _,ķ,by simp[C,YN],λ_=>fx⟩ ?_ ?_
 .rintro⟨dn,f,i⟩ h2 ⟨rfl,hf,hi,hw,hz⟩;simp only at hf hi hw hz;have f_:dn.length<=n:=by rw[hNe,<-hw,Aq];omega
  rcases Bi i s.length with hlt|GX
  .obtain⟨v,p,d⟩:=yO (c:=s[i]) none rfl (h:=h1++[.cells (dn.map Aa.str++List.replicate (n-dn.length) (S []))]);rw[Ay hlt] at hw;cases hsp:No s[i] with
   |false=>
    rw[hsp] at d;simp only[abS,(Ab:(i:Int)<(s.length:Int)),Gs hlt,p,d,yM,Ck,↓reduceIte,CI (Ab:i<9223372036854775807)];rw[wf,hsp] at hw;refine .next (dn,f,i+1) rfl ⟨rfl,Gx,hlt,?_,λe=>by simp only at e;omega⟩ Gx
    simp only
    rw[iM hf hlt];simpa using hw
   |true=>
    rw[hsp] at d;have aR0:f<i:=by
     rcases Bi f i with h|h
     .exact h
     .have:=hz Ab hlt;rw[hsp] at this;cases this
    have aL8:(s.take i).drop f≠[]:=by intro e;have:=B2 List.length e;simp at this;omega
    rw[wf,hsp] at hw;simp only[BE,aL8,DU] at hw;have m:dn.length<n:=by rw[hNe,<-hw];simp
    have u:Az (.FA 1) [.C3 h1.length 0 n 1,I (dn.length:Int)]=some (Pt h1.length dn.length):=by have:=Fe (id:=h1.length) (z:=1) (n:=n) (k:= .i64) m;rwa [FW] at this
    have hcl:(dn.map Aa.str++List.replicate (n-dn.length) (S [])).length=n:=Ei;have t:CL (h1++[.cells (dn.map Aa.str++List.replicate (n-dn.length) (S []))]) 1 (Pt h1.length dn.length) (.str ((s.take i).drop f))=some (h1++[.cells ((dn++[(s.take i).drop f]).map Aa.str++List.replicate (n-(dn++[(s.take i).drop f]).length) (S []))]):=by have F:(h1++[ED.cells (dn.map Aa.str++List.replicate (n-dn.length) (S []))])[h1.length]?=some (.cells (dn.map Aa.str++List.replicate (n-dn.length) (S []))):=Ax;simp only[CL,F,P1,Bl];rw[Af ⟨trivial,by rw[hcl];omega⟩,B5 _ _ (Ae _),Dy];have E:n-dn.length=(n-(dn.length+1))+1:=Ab;have D:(dn.map Aa.str).length=dn.length:=Av ..;simp only[eS,BU,A9,Dw,Aq,Bl];rw[E,Kp,yP _ _ _ _ D.symm];simp
    simp only[abS,(Ab:(i:Int)<(s.length:Int)),Gs hlt,p,d,yM,↓reduceIte,(AM:¬(1:Int)=0),Q3 (z:=0) (k:= .i64) (l:= .i64) (Ab:f<=i) hi,u,t,CI (Ab:dn.length<9223372036854775807),CI (Ab:i<9223372036854775807)];refine En (i:=6) (λj:Nat=>[I (j:Int)]) (λj h2=>h2=h1++[.cells ((dn++[(s.take i).drop f]).map Aa.str++List.replicate (n-(dn++[(s.take i).drop f]).length) (S []))]/\i<j/\j<=s.length/\wf [] (s.drop (i+1))=wf [] (s.drop j)) (λj=>s.length-j) (λj h2=>h2=h1++[.cells ((dn++[(s.take i).drop f]).map Aa.str++List.replicate (n-(dn++[(s.take i).drop f]).length) (S []))]/\i<j/\j<=s.length/\wf [] (s.drop (i+1))=wf [] (s.drop j)/\∀hj:j<s.length,No s[j]=false) (i+1) rfl ⟨rfl,Ab,hlt,rfl⟩ ?_ ?_
    .rintro j h2 ⟨rfl,o,hj,m8⟩;rcases Bi j s.length with Y4|L
     .obtain⟨v,K,A⟩:=yO (c:=s[j]) none rfl (h:=h1++[.cells ((dn++[(s.take i).drop f]).map Aa.str++List.replicate (n-(dn++[(s.take i).drop f]).length) (S []))]);cases g:No s[j] with
      |true=>rw[g] at A;simp only[abS,(Ab:(j:Int)<(s.length:Int)),Gs Y4,K,A,yM,↓reduceIte,(AM:(1:Int)≠0),Cy,CI (Ab:j<9223372036854775807)];rw[Ay Y4,wf,g] at m8;exact .next (j+1) rfl ⟨rfl,Ab,Y4,by simpa using m8⟩ Ab
      |false=>rw[g] at A;simp only[abS,(Ab:(j:Int)<(s.length:Int)),Gs Y4,K,A,yM,Ck,↓reduceIte,Cy];exact .HM j rfl ⟨rfl,o,hj,m8,λ_=>g⟩
     .simp only[abS,(Ab:¬(j:Int)<(s.length:Int))];exact .HM j rfl ⟨rfl,o,hj,m8,λh=>absurd h Ab⟩
    .rintro j h2 ⟨rfl,o,hj,m8,B⟩;simp only[Cf,↓reduceIte];refine .next (dn++[(s.take i).drop f],j,j) Ax ⟨rfl,Ae _,hj,?_,λ_=>B⟩ Gx
     simp only[YN];rw[<-m8,AS];exact hw
  .simp only[abS,(Ab:¬(i:Int)<(s.length:Int))];have hie:i=s.length:=Ab;refine .HM (dn,f,i) rfl ⟨rfl,Gx,?_⟩;simp only
   rw[AT GX,hie,BW] at hw;exact hw
 .rintro⟨dn,f,i⟩ h2 ⟨rfl,hf,hw⟩;simp only at hf hw;have fz:∀l:List Ah,l=wf [] s->Li (h1++[.cells (l.map Aa.str)]) (.C3 h1.length 0 n 1)=some (h1++[.DF],.sl 1 ((wf [] s).map Ca)):=by
   rintro l rfl;have hr:∀r∈(wf [] s).map Ca,r.length=1:=λr hr=>by obtain⟨w,_,rfl⟩:=A4.1 hr;rfl
   have P:((wf [] s).map Ca).flatten=(wf [] s).map Aa.str:=by
    generalize wf [] s=q;induction q with
    |nil=>rfl
    |cons x q ih=>simp[Ca,ih]
   have:=P2 (h:=h1++[.cells ((wf [] s).map Aa.str)]) (id:=h1.length) hr (by rw[P];simp);rw[Av,<-hNe] at this;rw[this,B5 _ _ (Ae _),Dy];rfl
  rcases Bi f s.length with hlt|GX
  .have hne:s.drop f≠[]:=by intro e;have:=B2 List.length e;simp at this;omega
   rw[wf,Ad hne] at hw;have m:n=dn.length+1:=by rw[hNe,<-hw];simp
   have u:Az (.FA 1) [.C3 h1.length 0 n 1,I (dn.length:Int)]=some (Pt h1.length dn.length):=by have:=Fe (id:=h1.length) (z:=1) (n:=n) (k:= .i64) (Ab:dn.length<n);rwa [FW] at this
   have t:CL (h1++[.cells (dn.map Aa.str++List.replicate (n-dn.length) (S []))]) 1 (Pt h1.length dn.length) (.str (s.drop f))=some (h1++[.cells ((dn++[s.drop f]).map Aa.str)]):=by have F:(h1++[ED.cells (dn.map Aa.str++List.replicate (n-dn.length) (S []))])[h1.length]?=some (.cells (dn.map Aa.str++List.replicate (n-dn.length) (S []))):=Ax;have E:n-dn.length=1:=Ab;have D:(dn.map Aa.str).length=dn.length:=Av ..;simp only[CL,F,P1,Bl];rw[Af ⟨trivial,Ei⟩,B5 _ _ (Ae _),Dy,E,show List.replicate 1 (S [])=S []::[] from rfl,yP _ _ _ _ D.symm];simp
   simp only[abS,(Ab:(f:Int)<(s.length:Int)),bp (z:=0) (k:= .i64) (Ab:f<=s.length),u,t,fz _ hw]
  .rw[AT GX,wf] at hw;simp only[BE,BB] at hw;have m:n-dn.length=0:=by rw[hNe,<-hw];omega
   have G:=fz _ hw;rw[m,List.replicate_zero,BB];simp only[abS,(Ab:¬(f:Int)<(s.length:Int)),G]
section
variable{h h':Ai}{bi:Nat}{b b':BS}{F:Nat->Prop}{n o a:Nat}{t:DH}{av:Aa}
def aHq(lo hi r:Int)(h:Ai):B9 cx 273 [.int .i32 r,.BR [.int .i32 lo],.BR [.int .i32 hi]] h (.bool (decide (lo<=r/\r<=hi))) h:=by rw[Ag,dK,Ó];simp only[Cf];refine⟨λh1=>by simp[h1],λh1=>by simp[h1]⟩
def UE(p:Int×Int):List Aa:=[.func (.func 273) [] [.BR [.int .i32 p.1],.BR [.int .i32 p.2]]]
def aHr{L:List (Int×Int)}(g:L.length<=1000)(r:Int)(h:Ai):B9 cx 272 [.int .i32 r,.BR [.sl 1 (L.map UE)]] h (.bool (L.any λp=>decide (p.1<=r/\r<=p.2))) h:=by
 have hv:Bv 1 (L.map UE) (.sl 1 (L.map UE)):= .mk;have e:=Bv.F0 hv;rw[Ag,xJ,aCv];simp only[Cf,e];refine BM (λn:Nat=>[ff,I (n:Int)]) (λn h1=>n<=L.length/\h1=h/\L.any (λp=>decide (p.1<=r/\r<=p.2))=(L.drop n).any λp=>decide (p.1<=r/\r<=p.2)) (λn=>L.length-n) 0 rfl ⟨A7 _,rfl,rfl⟩ ?_;rintro n h1 ⟨hn,rfl,ha⟩;rcases Bi n L.length with hlt|GX
 .have c:=Bv.Df (k:= .i64) hv hlt;have f:∀x y:Int,CC (.func (.func 273) [] [.BR [.int .i32 x],.BR [.int .i32 y]]) [.int .i32 r]=some (273,[.int .i32 r,.BR [.int .i32 x],.BR [.int .i32 y]]):=λ_ _=>rfl;have d:=aHq L[n].1 L[n].2 r h1;rw[Ay hlt,Ru] at ha;rw[UE] at c;simp only[abS,(Ab:(n:Int)<(L.length:Int)),c,f,d.Ac,CI (Ab:n<9223372036854775807)];refine⟨λh2=>?_,λh2=>?_⟩;.rw[ha];simp[h2]
  .rw[Ak h2,I2] at ha;exact Bq.next (n+1) rfl ⟨hlt,rfl,ha⟩ Ab
 .rw[AT GX] at ha;simp only[abS,(Ab:¬(n:Int)<(L.length:Int)),ha,lN]
def aMa(r:Int):Lm cx 175 [.int .i32 r] (.bool (decide (d_ r))):=by
 have d:∀(lo hi:Int) (h:Ai),B9 cx 242 [.int .i32 lo,.int .i32 hi] h (.func (.func 273) [] [.BR [.int .i32 lo],.BR [.int .i32 hi]]) h:=λlo hi h=>by rw[Ag,Vv,r_];simp only[Cf]
 have g:∀(v:Aa) (h:Ai),v.cells=[v]->B9 cx 241 [v] h (.func (.func 272) [] [.BR [v]]) h:=λv h hv=>by rw[Ag,dF,Î];simp only[Cf,hv]
 have e:=aHr (L:=[(9,10),(12,13),(32,32)]) AM r [];have c:Az (.Ch 1) [.func (.func 273) [] [.BR [.int .i32 9],.BR [.int .i32 10]],.func (.func 273) [] [.BR [.int .i32 12],.BR [.int .i32 13]],.func (.func 273) [] [.BR [.int .i32 32],.BR [.int .i32 32]]]=some (.sl 1 ([((9:Int),(10:Int)),(12,13),(32,32)].map UE)):=rfl;have f:∀v:Aa,CC (.func (.func 272) [] [v]) [.int .i32 r]=some (272,[.int .i32 r,v]):=λ_=>rfl;have r2:=g (.sl 1 ([((9:Int),(10:Int)),(12,13),(32,32)].map UE)) [] rfl;have e0:decide (d_ r)=([((9:Int),(10:Int)),(12,13),(32,32)].any λp=>decide (p.1<=r/\r<=p.2)):=by
  have c:d_ r↔((9<=r/\r<=10)\/(12<=r/\r<=13)\/(32<=r/\r<=32)):=by unfold d_;omega
  simp only[Ru,lN,Rr,<-Bool.decide_or,C9];exact c
 rw[e0,Q5,cX,Å];simp only[Cf,(d 9 10 []).Ac,(d 12 13 []).Ac,(d 32 32 []).Ac,c,r2.Ac,f,e.Ac]
structure JZ(l:Ah)(ws:List Ah):Prop where
 len:l.length<=1000000
 asc:∀c∈l,c.toNat<128
 wf:wf [] l=ws
def ME{l:Ah}{ws:List Ah}(h:(decide (l.length<=1000000)&&l.all (λc=>decide (c.toNat<128))&&decide (wf [] l=ws))=true):JZ l ws:=by simp only[AN,B0,Cg] at h;exact⟨h.1.1,h.1.2,h.2⟩
def JZ.few{l:Ah}{ws:List Ah}(w:JZ l ws):ws.length<=1000001:=by have:=yN (s:=l) (cur:=[]);have:=w.len;rw[<-w.wf];omega
def vg{l:Ah}{ws:List Ah}(w:JZ l ws)(h:Ai):B9 cx 192 [.str l] h (.sl 1 (ws.map Ca)) (h++[.DF]):=by have c:=aHp l w.len w.asc h;rw[w.wf] at c;rw[Ag,vG,aBC];simp only[Cf,c.Ac]
def qE{l:Ah}{ws:List Ah}(w:JZ l ws)(s:Ah):Lm cx 185 [.str s,.str l] (.bool (decide (s∈ws))):=by have c:B9 cx 192 _ [] _ [.DF]:=vg w [];have r2:=Ú (CP (ws:=ws)) (by have:=w.few;omega) s [ED.DF];rw[Q5,dA,È];simp only[Cf,c.Ac,r2.Ac]
def FF{l:Ah}{ws:List Ah}(w:JZ l ws)(t:DH)(av:Aa)(h:Ai):B9 cx 76 [.agg (B1 t av),.str l] h (.bool (decide (t.st ws))) h:=by
 rw[Ag,qo,t76];simp only[Cf,(qE w t.name).Bn rfl rfl];refine⟨λh1=>?_,λh1=>?_⟩;.congr 2;unfold DH.st;simp[h1]
 .unfold DH.st;simp[h1]
def YD{l:Ah}{ws:List Ah}(w:JZ l ws)(t:DH)(av:Aa)(h:Ai):B9 cx 79 [.agg (B1 t av),.str l] h (.bool (decide (t.en ws))) h:=by
 rw[Ag,qt,t79];simp only[Cf,(qE w t.name).Bn rfl rfl];refine⟨λh1=>?_,λh1=>?_⟩;.congr 2;unfold DH.en;simp[h1]
 .unfold DH.en;simp[h1]
def YE{l:Ah}{ws:List Ah}(w:JZ l ws)(t:DH)(av:Aa)(h:Ai):B9 cx 75 [.agg (B1 t av),.str l] h (.bool (decide (t.lW ws))) h:=by
 rw[Ag,qn,t75];simp only[Cf,(qE w t.name).Bn rfl rfl];refine⟨λh1=>?_,λh1=>?_⟩;.congr 2;unfold DH.lW;simp[h1]
 .unfold DH.lW;simp[h1]
def SP(t:DH)(av:Aa)(h:Ai):B9 cx 69 [.agg (B1 t av)] h (.bool (decide t.ID)) h:=by
 rw[Ag,qh,t69];simp only[Cf,(aMa t.r).Bn rfl rfl];refine⟨λh1=>?_,λh1=>?_⟩;.congr 2;unfold DH.ID;simp[h1]
 .unfold DH.ID;simp[h1]
def Km(w:PB h bi b F)(t:DH)(av:Aa):B9 cx 36 [Pt bi 0,.agg (B1 t av)] h (.bool (decide t.ok)) h:=by
 obtain⟨x,l0⟩:=w.LL;rw[Ag,ph,t36];simp only[abS,l0];refine⟨λh1=>?_,λh1=>?_⟩;.congr 2;unfold DH.ok;simp[h1]
 .unfold DH.ok;simp[h1]
def vh(nm:Ah)(h:Ai):B9 cx 77 [.str nm] h (.agg (B1 (MV nm) .slnil)) h:=by rw[Ag,qp,t77];simp only[abS,Nat.reduceLeDiff,↓reduceIte,Br,MV]
def qF(w:PB h bi b F)(m:Int):F9 h F 71 [Pt bi 0,I m] tt bi (b.again m).1:=by obtain⟨d,w1,c⟩:=Gd w m;refine⟨_,_,?_,w1,c⟩;rw[Ag,qj,t71];simp only[Cf,d]
def Rp(w:PB h bi b F)(g:Gz b n o a):B9 cx 83 [Pt bi 0] h (.bool (decide b.W9)) h:=by rw[Ag,qv,t83];simp only[Cf,(aDe w g Bc).Ac];rfl
def qG(w:PB h bi b F)(g:Gz b (n+4) o a)(ht:t.Sm)(hv:Bb t.Au av):F9 h F 78 [Pt bi 0,.agg (B1 t av)] (.tuple []) bi (b.MC t):=by obtain⟨h1,j,f,w1,d⟩:=ES w g ht hv;obtain⟨h2,i,r2,e,c⟩:=OA w1 (g.E4 ht);refine⟨h2,i,?_,e,d.trans c⟩;rw[Ag,qq,t78];simp only[Cf,f.Ac,r2.Ac]
end
def eJ:JZ aUi eHB:=ME Cz
def kQ:JZ aUd uw:=ME Cz
def ZU:JZ aUq pZ:=ME Cz
def vi:JZ aUZ eNo:=ME Cz
def kR:JZ aT4 ux:=ME Cz
def vj:JZ aUJ sNS:=ME Cz
def yQ:JZ aTS aC8:=ME Cz
def vn:JZ aUN sHN:=ME Cz
def Qg:JZ aTw Hq:=ME Cz
def vo:JZ aTY sT1:=ME Cz
def vp:JZ [116,100,32,116,104] sTd:=ME Cz
def IW:JZ aTA [aTA]:=ME Cz
def KS:JZ aTB [aTB]:=ME Cz
def ZV:JZ aTX [aTX]:=ME Cz
def XX:JZ aUv [aUv]:=ME Cz
def Lv:JZ aTQ [aTQ]:=ME Cz
def kS:JZ aTF [aTF]:=ME Cz
def SQ:JZ aTJ [aTJ]:=ME Cz
def yR:JZ aVc [aVc]:=ME Cz
def vq:JZ [116,114] [[116,114]]:=ME Cz
def Gy:JZ aTz [aTz]:=ME Cz
section
variable{h h':Ai}{bi:Nat}{b b':BS}{F:Nat->Prop}{n o a:Nat}{t:DH}{av:Aa}
def aMc(w:PB h bi b F)(g:Gz b (n+5) o a)(ht:t.Sm)(hv:Bb t.Au av):F9 h F 26 [Pt bi 0,.agg (B1 t av)] (.bool (b.GJ t).2) bi (b.GJ t).1:=by
 have Ce:=w.Ce;unfold BS.GJ;by_cases u:¬t.ok;.rw[Af u];have c:=Km w t av;rw[Ak u] at c;refine⟨_,_,?_,w,.refl⟩;rw[Ag,Pr,L_];simp only[abS,↓reduceIte,c.Ac]
 rw[Ad u];have c:=Km w t av;rw[Al (E9.1 u)] at c;by_cases e:t.k=1;.rw[Af e];refine⟨_,_,?_,w,.refl⟩;rw[Ag,Pr,L_];simp only[abS,↓reduceIte,c.Ac,A5 e]
 rw[Ad e];by_cases r:t.ID;.rw[Af r];have d:=SP t av h;rw[Al r] at d;refine⟨_,_,?_,w,.refl⟩;rw[Ag,Pr,L_];simp only[abS,↓reduceIte,c.Ac,d.Ac,e]
 rw[Ad r];have d:=SP t av h;rw[Ak r] at d;by_cases q:t.lW eHB;.rw[Af q];have f:=YE eJ t av h;rw[Al q] at f;refine⟨_,_,?_,w,.refl⟩;rw[Ag,Pr,L_];simp only[abS,↓reduceIte,c.Ac,d.Ac,f.Ac,e]
 rw[Ad q];have f:=YE eJ t av h;rw[Ak q] at f;by_cases m:t.k=4;.rw[Af m];obtain⟨h1,y,i,w1,j⟩:=LC (s:=t.data) w (g.dn (n':=n+1) Ab) (by have:=ht.data;omega) b.CK;refine⟨_,_,?_,w1,j⟩;rw[Ag,Pr,L_];simp only[abS,↓reduceIte,c.Ac,d.Ac,f.Ac,e,A5 m,i.Ac,Ce]
 rw[Ad m];by_cases p:t.st [aTA];.rw[Af p];have l:=FF IW t av h;rw[Al p] at l;obtain⟨h1,y,i,w1,j⟩:=ES w (g.dn (n':=n+4) Ab) ht hv;obtain⟨z,x,v⟩:=Gd w1 3;refine⟨_,_,?_,x,j.trans v⟩;rw[Ag,Pr,L_];simp only[abS,↓reduceIte,c.Ac,d.Ac,f.Ac,l.Ac,e,m,i.Ac,z]
 rw[Ad p];have l:=FF IW t av h;rw[Ak p] at l;have rt:=vh aTA h;obtain⟨h1,y,i,w1,j⟩:=ES (t:=MV aTA) (av:= .slnil) w (g.dn (n':=n+4) Ab) (Lu AM) (.inr ⟨rfl,rfl⟩);obtain⟨h2,A,r2,x,v⟩:=qF w1 3;simp only[MV] at rt i;refine⟨_,_,?_,x,j.trans v⟩;rw[Ag,Pr,L_];simp only[abS,↓reduceIte,c.Ac,d.Ac,f.Ac,l.Ac,e,m,rt.Ac,i.Ac,r2.Ac,BS.again]
def aMd(w:PB h bi b F)(g:Gz b (n+1000) o a)(ht:t.Sm)(hv:Bb t.Au av)(H:t.st [aTA]->F9 h F 14 [Pt bi 0,.agg (B1 t av)] ff bi (b.Oy t)):F9 h F 27 [Pt bi 0,.agg (B1 t av)] (.bool (b.GK t).2) bi (b.GK t).1:=by
 have Ce:=w.Ce;unfold BS.GK;by_cases x:¬t.ok;.rw[Af x];have c:=Km w t av;rw[Ak x] at c;refine⟨_,_,?_,w,.refl⟩;rw[Ag,NZ,xl];simp only[abS,↓reduceIte,c.Ac]
 rw[Ad x];have c:=Km w t av;rw[Al (E9.1 x)] at c;by_cases e:t.k=1;.rw[Af e];refine⟨_,_,?_,w,.refl⟩;rw[Ag,NZ,xl];simp only[abS,↓reduceIte,c.Ac,A5 e]
 rw[Ad e];by_cases v:t.ID;.rw[Af v];have d:=SP t av h;rw[Al v] at d;refine⟨_,_,?_,w,.refl⟩;rw[Ag,NZ,xl];simp only[abS,↓reduceIte,c.Ac,d.Ac,e]
 rw[Ad v];have d:=SP t av h;rw[Ak v] at d;by_cases u:t.lW eHB;.rw[Af u];have i:=YE eJ t av h;rw[Al u] at i;refine⟨_,_,?_,w,.refl⟩;rw[Ag,NZ,xl];simp only[abS,↓reduceIte,c.Ac,d.Ac,i.Ac,e]
 rw[Ad u];have i:=YE eJ t av h;rw[Ak u] at i;by_cases m:t.k=4;.rw[Af m];obtain⟨h1,D,f,w1,j⟩:=LC (s:=t.data) w (g.dn (n':=n+1) Ab) (by have:=ht.data;omega) 0;refine⟨_,_,?_,w1,j⟩;rw[Ag,NZ,xl];simp only[abS,↓reduceIte,c.Ac,d.Ac,i.Ac,e,A5 m,f.Ac]
 rw[Ad m];by_cases q:t.st [aTA];.rw[Af q];have l:=FF IW t av h;rw[Al q] at l;obtain⟨h1,D,f,w1,j⟩:=H q;refine⟨_,_,?_,w1,j⟩;rw[Ag,NZ,xl];simp only[abS,↓reduceIte,c.Ac,d.Ac,i.Ac,l.Ac,e,m,f.Ac]
 rw[Ad q];have l:=FF IW t av h;rw[Ak q] at l;by_cases r:t.st [aTB];.rw[Af r];have p:=FF KS t av h;rw[Al r] at p;obtain⟨h1,D,f,w1,j⟩:=ES w (g.dn (n':=n+4) Ab) ht hv;obtain⟨C,B,z⟩:=ve w1 (b.OF 1);obtain⟨E,A,y⟩:=Gd B 4;refine⟨_,_,?_,A,(j.trans z).trans y⟩;rw[Ag,NZ,xl];simp only[abS,↓reduceIte,c.Ac,d.Ac,i.Ac,l.Ac,p.Ac,e,m,f.Ac,C,E]
 rw[Ad r];have p:=FF KS t av h;rw[Ak r] at p;have rt:=vh aTB h;obtain⟨h1,D,f,w1,j⟩:=ES (t:=MV aTB) (av:= .slnil) w (g.dn (n':=n+4) Ab) (Lu AM) (.inr ⟨rfl,rfl⟩);obtain⟨C,B,z⟩:=ve w1 (b.OF 1);obtain⟨I,J,G,A,y⟩:=qF B 4;simp only[MV] at rt f;refine⟨_,_,?_,A,(j.trans z).trans y⟩;rw[Ag,NZ,xl];simp only[abS,↓reduceIte,c.Ac,d.Ac,i.Ac,l.Ac,p.Ac,e,m,rt.Ac,f.Ac,C,G.Ac,BS.again]
def eK(w:PB h bi b F)(g:Gz b (n+1004) o a)(ht:t.Sm)(hv:Bb t.Au av)(hh:t.st [aTA]->F9 h F 14 [Pt bi 0,.agg (B1 t av)] ff bi (b.Oy t)):F9 h F 28 [Pt bi 0,.agg (B1 t av)] (.bool (b.EJ t).2) bi (b.EJ t).1:=by
 have Ce:=w.Ce;unfold BS.EJ;by_cases M:¬t.ok;.rw[Af M];have e:=Km w t av;rw[Ak M] at e;refine⟨_,_,?_,w,.refl⟩;rw[Ag,Ii,fC];simp only[abS,↓reduceIte,e.Ac]
 rw[Ad M];have e:=Km w t av;rw[Al (E9.1 M)] at e;by_cases i:t.k=1;.rw[Af i];refine⟨_,_,?_,w,.refl⟩;rw[Ag,Ii,fC];simp only[abS,↓reduceIte,e.Ac,A5 i]
 rw[Ad i];by_cases L:t.st [aTB];.rw[Af L];have f:=FF KS t av h;rw[Al L] at f;refine⟨_,_,?_,w,.refl⟩;rw[Ag,Ii,fC];simp only[abS,↓reduceIte,e.Ac,f.Ac,i]
 rw[Ad L];have f:=FF KS t av h;rw[Ak L] at f;by_cases K:t.lW uw;.rw[Af K];have j:=YE kQ t av h;rw[Al K] at j;refine⟨_,_,?_,w,.refl⟩;rw[Ag,Ii,fC];simp only[abS,↓reduceIte,e.Ac,f.Ac,j.Ac,i]
 rw[Ad K];have j:=YE kQ t av h;rw[Ak K] at j;by_cases J:t.ID;.rw[Af J];have l:=SP t av h;rw[Al J] at l;obtain⟨h1,z,d,w1,c⟩:=XS w (g.dn (n':=n+5) Ab) ht.r;refine⟨_,_,?_,w1,c⟩;rw[Ag,Ii,fC];simp only[abS,↓reduceIte,e.Ac,f.Ac,j.Ac,l.Ac,i,d.Ac]
 rw[Ad J];have l:=SP t av h;rw[Ak J] at l;by_cases q:t.k=4;.rw[Af q];obtain⟨h1,z,d,w1,c⟩:=LC (s:=t.data) w (g.dn (n':=n+1) Ab) (by have:=ht.data;omega) 0;refine⟨_,_,?_,w1,c⟩;rw[Ag,Ii,fC];simp only[abS,↓reduceIte,e.Ac,f.Ac,j.Ac,l.Ac,i,A5 q,d.Ac]
 rw[Ad q];by_cases D:t.st [aTA];.rw[Af D];have m:=FF IW t av h;rw[Al D] at m;obtain⟨h1,z,d,w1,c⟩:=hh D;refine⟨_,_,?_,w1,c⟩;rw[Ag,Ii,fC];simp only[abS,↓reduceIte,e.Ac,f.Ac,j.Ac,l.Ac,m.Ac,i,q,d.Ac]
 rw[Ad D];have m:=FF IW t av h;rw[Ak D] at m;by_cases H:t.st ux;.rw[Af H];have v:=FF kR t av h;rw[Al H] at v;obtain⟨h1,z,d,w1,c⟩:=qG w (g.dn (n':=n+4) Ab) ht hv;refine⟨_,_,?_,w1,c⟩;rw[Ag,Ii,fC];simp only[abS,↓reduceIte,e.Ac,f.Ac,j.Ac,l.Ac,m.Ac,v.Ac,i,q,d.Ac]
 rw[Ad H];have v:=FF kR t av h;rw[Ak H] at v;by_cases G:t.st [aTX];.rw[Af G];have x:=FF ZV t av h;rw[Al G] at x;obtain⟨h1,z,d,w1,c⟩:=XT w (g.dn (n':=n+4) Ab) ht hv 2;refine⟨_,_,?_,w1,c⟩;rw[Ag,Ii,fC];simp only[abS,↓reduceIte,e.Ac,f.Ac,j.Ac,l.Ac,m.Ac,v.Ac,x.Ac,i,q,d.Ac]
 rw[Ad G];have x:=FF ZV t av h;rw[Ak G] at x;by_cases E:t.st sNS;.rw[Af E];have A:=FF vj t av h;rw[Al E] at A;obtain⟨h1,z,d,w1,c⟩:=XT w (g.dn (n':=n+4) Ab) ht hv 3;refine⟨_,_,?_,w1,c⟩;rw[Ag,Ii,fC];simp only[abS,↓reduceIte,e.Ac,f.Ac,j.Ac,l.Ac,m.Ac,v.Ac,x.Ac,A.Ac,i,q,d.Ac]
 rw[Ad E];have A:=FF vj t av h;rw[Ak E] at A;by_cases JY:t.st [aUv];.rw[Af JY];have kT:=FF XX t av h;rw[Al JY] at kT;obtain⟨h1,z,d,w1,c⟩:=XT w (g.dn (n':=n+4) Ab) ht hv 4;refine⟨_,_,?_,w1,c⟩;rw[Ag,Ii,fC];simp only[abS,↓reduceIte,e.Ac,f.Ac,j.Ac,l.Ac,m.Ac,v.Ac,x.Ac,A.Ac,kT.Ac,i,q,d.Ac]
 rw[Ad JY];have kT:=FF XX t av h;rw[Ak JY] at kT;by_cases Mz:t.st [aTQ];.rw[Af Mz];have ń:=FF Lv t av h;rw[Al Mz] at ń;obtain⟨h1,z,d,w1,c⟩:=ES w (g.dn (n':=n+4) Ab) ht hv;obtain⟨N,C,B⟩:=Gd w1 5;refine⟨_,_,?_,C,c.trans B⟩;rw[Ag,Ii,fC];simp only[abS,↓reduceIte,e.Ac,f.Ac,j.Ac,l.Ac,m.Ac,v.Ac,x.Ac,A.Ac,kT.Ac,ń.Ac,i,q,d.Ac,N]
 rw[Ad Mz];have ń:=FF Lv t av h;rw[Ak Mz] at ń;by_cases Nl:t.en [aTB];.rw[Af Nl];have et:=YD KS t av h;rw[Al Nl] at et;obtain⟨h1,z,d,w1,c⟩:=OA w (g.dn (n':=n) Ab);obtain⟨N,C,B⟩:=Gd w1 6;refine⟨_,_,?_,C,c.trans B⟩;rw[Ag,Ii,fC];simp only[abS,↓reduceIte,e.Ac,f.Ac,j.Ac,l.Ac,m.Ac,v.Ac,x.Ac,A.Ac,kT.Ac,ń.Ac,et.Ac,i,q,d.Ac,N]
 rw[Ad Nl];have et:=YD KS t av h;rw[Ak Nl] at et;by_cases Qd:t.st [Bc]
 .rw[Af Qd];have p:=FF Gy t av h;rw[Al Qd] at p;obtain⟨h1,z,d,w1,c⟩:=ES w (g.dn (n':=n+4) Ab) ht hv;have g1:=(g.dn (n':=n+2+4) Ab).E4 ht;obtain⟨h2,F2,r2,C,B⟩:=vd w1 g1;obtain⟨X,U,S⟩:=KR C false;obtain⟨W,P,R⟩:=Gd U 18;obtain⟨tv,Z,O⟩:=P.ltm;have tb:(b.E4 t).tm.length<=900000000:=by have:=g1.rm.tm;omega
  obtain⟨u,Y,hu⟩:=æ O Gx (put (put h2 bi 14 ff) bi 4 (I 18));have e6:=Bv.Zw (b:=8) (a:=(18:Int)) hu (by simp only;have:AO=140737488355328:=rfl;omega);have em:Az (.Ch 1) [I 18]=some (.sl 1 [DN 18]):=rfl;have Qz:GI ((b.E4 t).tm++[(18:Int)]) (.sl 1 (((b.E4 t).tm++[(18:Int)]).map DN)):= .mk;obtain⟨V,T,Q⟩:=aL7 P Qz;refine⟨_,_,?_,T,(((c.trans B).trans S).trans R).trans Q⟩;rw[Ag,Ii,fC];simp only[abS,↓reduceIte,e.Ac,f.Ac,j.Ac,l.Ac,m.Ac,v.Ac,x.Ac,A.Ac,kT.Ac,ń.Ac,et.Ac,p.Ac,i,q,d.Ac,r2.Ac,X,W,Z,Y.Ac,em,e6,V]
 rw[Ad Qd];have p:=FF Gy t av h;rw[Ak Qd] at p;by_cases QH:t.en [Bc];.rw[Af QH];have y:=YD Gy t av h;rw[Al QH] at y;obtain⟨h1,z,d,w1,c⟩:=aDc w (g.dn (n':=n) Ab);refine⟨_,_,?_,w1,c⟩;rw[Ag,Ii,fC];simp only[abS,↓reduceIte,e.Ac,f.Ac,j.Ac,l.Ac,m.Ac,v.Ac,x.Ac,A.Ac,kT.Ac,ń.Ac,et.Ac,p.Ac,y.Ac,i,q,d.Ac]
 rw[Ad QH];have y:=YD Gy t av h;rw[Ak QH] at y;obtain⟨h1,z,d,w1,c⟩:=OA w (g.dn (n':=n) Ab);obtain⟨h2,F2,r2,C,B⟩:=qF w1 6;refine⟨_,_,?_,C,c.trans B⟩;rw[Ag,Ii,fC];simp only[abS,↓reduceIte,e.Ac,f.Ac,j.Ac,l.Ac,m.Ac,v.Ac,x.Ac,A.Ac,kT.Ac,ń.Ac,et.Ac,p.Ac,y.Ac,i,q,d.Ac,r2.Ac,BS.again]
def aMe(w:PB h bi b F)(g:Gz b (n+1004) o a)(ht:t.Sm)(hv:Bb t.Au av)(C:t.st [aTA]->F9 h F 14 [Pt bi 0,.agg (B1 t av)] ff bi (b.Oy t)):F9 h F 29 [Pt bi 0,.agg (B1 t av)] (.bool (b.GL t).2) bi (b.GL t).1:=by
 have Ce:=w.Ce;unfold BS.GL;by_cases B:¬t.ok;.rw[Af B];have c:=Km w t av;rw[Ak B] at c;refine⟨_,_,?_,w,.refl⟩;rw[Ag,L1,gm];simp only[abS,↓reduceIte,c.Ac]
 rw[Ad B];have c:=Km w t av;rw[Al (E9.1 B)] at c;by_cases i:t.k=1;.rw[Af i];refine⟨_,_,?_,w,.refl⟩;rw[Ag,L1,gm];simp only[abS,↓reduceIte,c.Ac,A5 i]
 rw[Ad i];by_cases A:t.st sHN;.rw[Af A];have f:=FF vn t av h;rw[Al A] at f;refine⟨_,_,?_,w,.refl⟩;rw[Ag,L1,gm];simp only[abS,↓reduceIte,c.Ac,f.Ac,i]
 rw[Ad A];have f:=FF vn t av h;rw[Ak A] at f;by_cases z:t.lW eNo;.rw[Af z];have j:=YE vi t av h;rw[Al z] at j;refine⟨_,_,?_,w,.refl⟩;rw[Ag,L1,gm];simp only[abS,↓reduceIte,c.Ac,f.Ac,j.Ac,i]
 rw[Ad z];have j:=YE vi t av h;rw[Ak z] at j;by_cases s:t.st [aTA];.rw[Af s];have l:=FF IW t av h;rw[Al s] at l;obtain⟨h1,u,e,w1,d⟩:=C s;refine⟨_,_,?_,w1,d⟩;rw[Ag,L1,gm];simp only[abS,↓reduceIte,c.Ac,f.Ac,j.Ac,l.Ac,i,e.Ac]
 rw[Ad s];have l:=FF IW t av h;rw[Ak s] at l;by_cases y:t.en [aTQ];.rw[Af y];have m:=YD Lv t av h;rw[Al y] at m;obtain⟨h1,u,e,w1,d⟩:=OA w (g.dn (n':=n) Ab);obtain⟨G,E,D⟩:=Gd w1 4;refine⟨_,_,?_,E,d.trans D⟩;rw[Ag,L1,gm];simp only[abS,↓reduceIte,c.Ac,f.Ac,j.Ac,l.Ac,m.Ac,i,e.Ac,G]
 rw[Ad y];have m:=YD Lv t av h;rw[Ak y] at m;by_cases x:t.ID;.rw[Af x];have p:=SP t av h;rw[Al x] at p;obtain⟨h1,u,e,w1,d⟩:=eK w g ht hv C;refine⟨_,_,?_,w1,d⟩;rw[Ag,L1,gm];simp only[abS,↓reduceIte,c.Ac,f.Ac,j.Ac,l.Ac,m.Ac,p.Ac,i,e.Ac]
 rw[Ad x];have p:=SP t av h;rw[Ak x] at p;by_cases r:t.k=4;.rw[Af r];obtain⟨h1,u,e,w1,d⟩:=eK w g ht hv C;refine⟨_,_,?_,w1,d⟩;rw[Ag,L1,gm];simp only[abS,↓reduceIte,c.Ac,f.Ac,j.Ac,l.Ac,m.Ac,p.Ac,i,A5 r,e.Ac]
 rw[Ad r];by_cases v:t.st aC8;.rw[Af v];have q:=FF yQ t av h;rw[Al v] at q;obtain⟨h1,u,e,w1,d⟩:=eK w g ht hv C;refine⟨_,_,?_,w1,d⟩;rw[Ag,L1,gm];simp only[abS,↓reduceIte,c.Ac,f.Ac,j.Ac,l.Ac,m.Ac,p.Ac,q.Ac,i,r,e.Ac]
 rw[Ad v];have q:=FF yQ t av h;rw[Ak v] at q;obtain⟨h1,u,e,w1,d⟩:=OA w (g.dn (n':=n) Ab);obtain⟨h2,H,r2,E,D⟩:=qF w1 4;refine⟨_,_,?_,E,d.trans D⟩;rw[Ag,L1,gm];simp only[abS,↓reduceIte,c.Ac,f.Ac,j.Ac,l.Ac,m.Ac,p.Ac,q.Ac,i,r,e.Ac,r2.Ac,BS.again]
def aMf(w:PB h bi b F)(g:Gz b (n+1005) o a)(ho:qD b)(ht:t.Sm)(hv:Bb t.Au av)(hs:t.st Hq):F9 h F 81 [Pt bi 0,.agg (B1 t av),.func (.func 28) [] []] (.bool (b.TP t).2) bi (b.TP t).1:=by
 have Ce:=w.Ce;obtain⟨h1,v,m,w1,f⟩:=aDd w g (BS.L4 b.head);have g1:=Gz.push (n:=n+1004) g ho;have hx:¬t.st [aTA]:=λh=>by have h1:=h.2;have h2:=hs.2;rw[Bd.1 h1] at h2;revert h2;decide
 obtain⟨h2,u,r2,j,d⟩:=eK w1 g1 ht hv (λh=>absurd h hx);obtain⟨r,p,s,k,i,c⟩:=XV j (g1.EJ ht) b.head;refine⟨p,s,?_,i,(f.trans d).trans c⟩;have e:Az (.B6 [I 0,I 0,S [],ff] [(0,1),(1,1),(2,1)]) [I b.head,I 1,S aTB]=some (.agg (BS.L4 b.head).row):=rfl;have q:∀l,CC (.func (.func 28) [] []) l=some (28,l):=λl=>by simp[CC]
 rw[Ag,qu,t81];simp only[Cf,Ce,e,m.Ac,q,r2.Ac,k.Ac];rfl
def aMg(w:PB h bi b F)(g:Gz b (n+1005) o a)(ht:t.Sm)(hv:Bb t.Au av)(ho:t.st Hq->qD b)(K:t.st [aTA]->F9 h F 14 [Pt bi 0,.agg (B1 t av)] ff bi (b.Oy t)):F9 h F 30 [Pt bi 0,.agg (B1 t av)] (.bool (b.HI t).2) bi (b.HI t).1:=by
 have Ce:=w.Ce;unfold BS.HI;by_cases I:¬t.ok;.rw[Af I];have e:=Km w t av;rw[Ak I] at e;refine⟨_,_,?_,w,.refl⟩;rw[Ag,Kj,tL];simp only[abS,↓reduceIte,e.Ac]
 rw[Ad I];have e:=Km w t av;rw[Al (E9.1 I)] at e;by_cases i:t.k=1;.rw[Af i];refine⟨_,_,?_,w,.refl⟩;rw[Ag,Kj,tL];simp only[abS,↓reduceIte,e.Ac,A5 i]
 rw[Ad i];by_cases H:t.st [aTB];.rw[Af H];have f:=FF KS t av h;rw[Al H] at f;refine⟨_,_,?_,w,.refl⟩;rw[Ag,Kj,tL];simp only[abS,↓reduceIte,e.Ac,f.Ac,i]
 rw[Ad H];have f:=FF KS t av h;rw[Ak H] at f;by_cases G:t.lW pZ;.rw[Af G];have j:=YE ZU t av h;rw[Al G] at j;refine⟨_,_,?_,w,.refl⟩;rw[Ag,Kj,tL];simp only[abS,↓reduceIte,e.Ac,f.Ac,j.Ac,i]
 rw[Ad G];have j:=YE ZU t av h;rw[Ak G] at j;by_cases E:t.ID;.rw[Af E];have l:=SP t av h;rw[Al E] at l;obtain⟨h1,v,c,w1,d⟩:=XS w (g.dn (n':=n+5) Ab) ht.r;refine⟨_,_,?_,w1,d⟩;rw[Ag,Kj,tL];simp only[abS,↓reduceIte,e.Ac,f.Ac,j.Ac,l.Ac,i,c.Ac]
 rw[Ad E];have l:=SP t av h;rw[Ak E] at l;by_cases p:t.k=4;.rw[Af p];obtain⟨h1,v,c,w1,d⟩:=LC (s:=t.data) w (g.dn (n':=n+1) Ab) (by have:=ht.data;omega) 0;refine⟨_,_,?_,w1,d⟩;rw[Ag,Kj,tL];simp only[abS,↓reduceIte,e.Ac,f.Ac,j.Ac,l.Ac,i,A5 p,c.Ac]
 rw[Ad p];by_cases B:t.st [aTA];.rw[Af B];have m:=FF IW t av h;rw[Al B] at m;obtain⟨h1,v,c,w1,d⟩:=K B;refine⟨_,_,?_,w1,d⟩;rw[Ag,Kj,tL];simp only[abS,↓reduceIte,e.Ac,f.Ac,j.Ac,l.Ac,m.Ac,i,p,c.Ac]
 rw[Ad B];have m:=FF IW t av h;rw[Ak B] at m;by_cases D:t.st [aTF];.rw[Af D];have q:=FF kS t av h;rw[Al D] at q;obtain⟨h1,v,c,w1,d⟩:=ES w (g.dn (n':=n+4) Ab) ht hv;obtain⟨J,A,z⟩:=KR w1 false;obtain⟨N,M,L⟩:=Gd A 7;refine⟨_,_,?_,M,(d.trans z).trans L⟩;rw[Ag,Kj,tL];simp only[abS,↓reduceIte,e.Ac,f.Ac,j.Ac,l.Ac,m.Ac,q.Ac,i,p,c.Ac,J,N]
 rw[Ad D];have q:=FF kS t av h;rw[Ak D] at q;by_cases C:t.st [aTJ];.rw[Af C];have u:=FF SQ t av h;rw[Al C] at u;obtain⟨h1,v,c,w1,d⟩:=ES w (g.dn (n':=n+4) Ab) ht hv;obtain⟨J,A,z⟩:=Gd w1 20;refine⟨_,_,?_,A,d.trans z⟩;rw[Ag,Kj,tL];simp only[abS,↓reduceIte,e.Ac,f.Ac,j.Ac,l.Ac,m.Ac,q.Ac,u.Ac,i,p,c.Ac,J]
 rw[Ad C];have u:=FF SQ t av h;rw[Ak C] at u;by_cases y:t.st Hq;.rw[Af y];have x:=FF Qg t av h;rw[Al y] at x;obtain⟨h1,v,c,w1,d⟩:=aMf w g (ho y) ht hv y;refine⟨_,_,?_,w1,d⟩;rw[Ag,Kj,tL];simp only[abS,↓reduceIte,e.Ac,f.Ac,j.Ac,l.Ac,m.Ac,q.Ac,u.Ac,x.Ac,i,p,c.Ac]
 rw[Ad y];have x:=FF Qg t av h;rw[Ak y] at x;by_cases JY:t.en [Bc];.rw[Af JY];have kT:=YD Gy t av h;rw[Al JY] at kT;obtain⟨h1,v,c,w1,d⟩:=eK w (g.dn (n':=n+1004) Ab) ht hv K;refine⟨_,_,?_,w1,d⟩;rw[Ag,Kj,tL];simp only[abS,↓reduceIte,e.Ac,f.Ac,j.Ac,l.Ac,m.Ac,q.Ac,u.Ac,x.Ac,kT.Ac,i,p,c.Ac]
 rw[Ad JY];have kT:=YD Gy t av h;rw[Ak JY] at kT;have rt:=vh aTF h;obtain⟨h1,v,c,w1,d⟩:=ES (t:=MV aTF) (av:= .slnil) w (g.dn (n':=n+4) Ab) (Lu AM) (.inr ⟨rfl,rfl⟩);obtain⟨h2,O,r2,A,z⟩:=qF w1 7;simp only[MV] at rt c;refine⟨_,_,?_,A,d.trans z⟩;rw[Ag,Kj,tL];simp only[abS,↓reduceIte,e.Ac,f.Ac,j.Ac,l.Ac,m.Ac,q.Ac,u.Ac,x.Ac,kT.Ac,i,p,rt.Ac,c.Ac,r2.Ac,BS.again]
def aMh(w:PB h bi b F)(g:Gz b (n+5) o a)(ht:t.Sm)(hv:Bb t.Au av):F9 h F 31 [Pt bi 0,.agg (B1 t av)] (.bool (b.N7 t).2) bi (b.N7 t).1:=by
 have Ce:=w.Ce;unfold BS.N7;by_cases m:¬t.ok;.rw[Af m];have d:=Km w t av;rw[Ak m] at d;refine⟨_,_,?_,w,.refl⟩;rw[Ag,TE,t31];simp only[abS,↓reduceIte,d.Ac]
 rw[Ad m];have d:=Km w t av;rw[Al (E9.1 m)] at d;by_cases e:t.k=5;.rw[Af e];obtain⟨h1,u,i,w1,f⟩:=XS w (g.dn (n':=n+5) Ab) ht.r;refine⟨_,_,?_,w1,f⟩;rw[Ag,TE,t31];simp only[abS,↓reduceIte,d.Ac,A5 e,i.Ac]
 rw[Ad e];by_cases j:t.k=6
 .rw[Af j];obtain⟨h1,u,i,w1,f⟩:=OA w (g.dn (n':=n) Ab);have s:b.KI.OE=b.OE:=by unfold BS.KI;split<;>rfl
  have c:=w1.Ce;rw[s] at c;obtain⟨h2,x,r2,q,p⟩:=qF w1 b.OE;refine⟨_,_,?_,q,f.trans p⟩;rw[Ag,TE,t31];simp only[abS,↓reduceIte,d.Ac,e,A5 j,i.Ac,c,r2.Ac,BS.again]
 rw[Ad j];by_cases l:t.k=3
 .rw[Af l];obtain⟨h1,u,i,w1,f⟩:=OA w (g.dn (n':=n) Ab);have s:b.KI.OE=b.OE:=by unfold BS.KI;split<;>rfl
  have c:=w1.Ce;rw[s] at c;obtain⟨v,q,p⟩:=Gd w1 b.OE;refine⟨_,_,?_,q,f.trans p⟩;rw[Ag,TE,t31];simp only[abS,↓reduceIte,d.Ac,e,j,A5 l,i.Ac,c,v]
 rw[Ad l];refine⟨_,_,?_,w,.refl⟩;rw[Ag,TE,t31];simp only[abS,↓reduceIte,d.Ac,e,j,l]
end
structure SW(h:Ai)(bi:Nat)(b:BS)(F:Nat->Prop)(si:Nat)(t:DH)(av:Aa):Prop where
 pb:PB h bi b F
 sc:h[si]?=some (.cells (Pt bi 0::B1 t av))
 no:¬F si
section
variable{h h':Ai}{bi si:Nat}{b b':BS}{F F':Nat->Prop}{n o a:Nat}{t:DH}{av:Aa}
def SW.after(w:SW h bi b F si t av)(p:PB h' bi b' F')(x:Ew h F h' F'):SW h' bi b' F' si t av:=by
 have hl:=(Aj.1 w.sc).1;refine⟨p,by rw[x.old si hl w.no];exact w.sc,λhf=>?_⟩;rcases x.BK si hf with h1|h1
 .exact w.no h1
 .omega
def SW.Ce(w:SW h bi b F si t av):Bj h none (Pt si 0)=some (Pt bi 0)/\Bj h (some 12) (Pt si 1)=some (.agg (B1 t av))/\Bj h none (Pt si 2)=some (.str t.name)/\Bj h none (Pt si 12)=some (.int .i32 t.r)/\Bj h none (Pt si 10)=some (.bool t.sc)/\Bj h none (Pt bi 1)=some (I b.CK)/\Bj h none (Pt bi 4)=some (I b.mode)/\Bj h none (Pt bi 5)=some (I b.OE)/\Bj h none (Pt bi 7)=some (I b.head)/\Bj h none (Pt bi 8)=some (I b.HP)/\Bj h none (Pt bi 14)=some (.bool b.fs)/\Bj h none (Pt bi 18)=some (I b.sw)/\Bj h none (Pt bi 19)=some (.bool b.stop):=by refine⟨by simp only[Bj,w.sc];rfl,by simp only[Bj,w.sc];rfl,by simp only[Bj,w.sc];rfl,by simp only[Bj,w.sc];rfl,by simp only[Bj,w.sc];rfl,w.pb.Ce⟩
def kU{s:Ah}:Az (.Ch 1) [.str s]=some (.sl 1 ([s].map Ca)):=El (ws:=[s]) rfl Ax
def SR(w:SW h bi b F si t av)(g:Gz b n o a)(s:Ah):B9 cx 196 [Pt si 0,.str s] h (.bool (b.has [s])) h:=by have l0:=w.Ce;have c:=SO w.pb g 1 (CP (ws:=[s])) Ax;rw[Ag,vK,aBG];simp only[abS,l0,kU,c.Ac];rfl
def eL(w:SW h bi b F si t av)(g:Gz b n o a)(s ex:Ah):F9 h F 197 [Pt si 0,.str s,.str ex] (.tuple []) bi (b.EE s ex):=by have l0:=w.Ce;obtain⟨_,h1,k,f,p1,d⟩:=LD w.pb g ex;have w1:=w.after p1 d;have l1:=w1.Ce;obtain⟨_,h2,j,r2,p2,c⟩:=eF p1 (g.Js Cs) (CP (ws:=[s])) Ax;have e:=w1.after p2 c;have i:=e.Ce;refine⟨_,_,?_,p2,d.trans c⟩;rw[Ag,vL,aBH];simp only[abS,l0,f.Ac,l1,r2.Ac,kU]
def vr(w:SW h bi b F si t av)(g:Gz b (n+4) o a)(ht:t.Sm)(hv:Bb t.Au av):F9 h F 100 [Pt si 0] (.tuple []) bi (b.block t):=by have l0:=w.Ce;obtain⟨h1,k,f,p1,d⟩:=IV w.pb g;have w1:=w.after p1 d;have l1:=w1.Ce;obtain⟨h2,j,r2,p2,c⟩:=ES p1 g.CA ht hv;have e:=w1.after p2 c;have i:=e.Ce;refine⟨_,_,?_,p2,d.trans c⟩;rw[Ag,tM,aAS];simp only[abS,l0,f.Ac,l1,r2.Ac]
def aMi(s:Ah):Lm cx 194 [.str s] (.bool (decide (s∈CT))):=by
 rw[Q5,vI,aBE];match s with
 |[]=>simp[CT]
 |[a]=>simp[CT]
 |[a,b]=>
  have e:decide ([a,b]∈CT)=decide (a.toNat=104/\49<=b.toNat/\b.toNat<=54):=by simp only[CT,AG,J1,lM,Ex,Mb,<-UG];have g:UInt8.toNat 104=104/\UInt8.toNat 49=49/\UInt8.toNat 50=50/\UInt8.toNat 51=51/\UInt8.toNat 52=52/\UInt8.toNat 53=53/\UInt8.toNat 54=54:=AM;simp only[g];rw[C9];omega
  rw[e];have i1:((a.toNat:Int)=104)↔a.toNat=104:=Ab;have d:((49:Int)<=b.toNat)↔49<=b.toNat:=Ab;have i3:((b.toNat:Int)<=54)↔b.toNat<=54:=Ab;have i:((b.toNat:Int)<49)↔b.toNat<49:=Ab;simp[i1,d,i3];by_cases h1:a.toNat=104<;>by_cases h2:49<=b.toNat<;>by_cases f:b.toNat<=54<;>simp[h1,h2,f]<;>omega
 |a::b::c::l=>simp[CT];omega
def UF(i:Item):i.row=[I i.node,I i.A6,.str i.name,.bool i.Ot]:=rfl
def aMj(w:SW h bi b F si t av)(g:Gz b (n+4) o a)(ht:t.Sm)(hv:Bb t.Au av):F9 h F 101 [Pt si 0] (.tuple []) bi (b.N8 t):=by
 have k:=(aMi (E3 b.CA.AK).name);unfold BS.N8;dsimp only;by_cases f:(E3 b.CA.AK).A6=1
 .by_cases l:(E3 b.CA.AK).name∈CT;.rw[show Be CT (E3 b.CA.AK)=true by simp[Be,f,l],Af rfl];rw[Al l] at k;have l0:=w.Ce;obtain⟨h1,s,i,p1,d⟩:=IV w.pb g;have w1:=w.after p1 d;have l1:=w1.Ce;have j:=kP p1 g.CA;obtain⟨h2,r,r2,p2,c⟩:=OA p1 g.CA;have e:=w1.after p2 c;have m:=e.Ce;obtain⟨x,y,v,q,p⟩:=ES p2 g.CA.KI ht hv;have u:=e.after q p;have l3:=u.Ce;refine⟨_,_,?_,q,(d.trans c).trans p⟩;rw[Ag,Vq,rj];simp only[abS,↓reduceIte,l0,i.Ac,l1,j.Ac,r2.Ac,m,v.Ac,UF,A5 f,k.Bn rfl rfl]
  .rw[show Be CT (E3 b.CA.AK)=false by simp[Be,f,l],Ad Ax];rw[Ak l] at k;have l0:=w.Ce;obtain⟨h1,s,i,p1,d⟩:=IV w.pb g;have w1:=w.after p1 d;have l1:=w1.Ce;have j:=kP p1 g.CA;obtain⟨h2,r,r2,p2,c⟩:=ES p1 g.CA ht hv;have e:=w1.after p2 c;have m:=e.Ce;refine⟨_,_,?_,p2,d.trans c⟩;rw[Ag,Vq,rj];simp only[abS,↓reduceIte,l0,i.Ac,l1,j.Ac,r2.Ac,UF,A5 f,k.Bn rfl rfl]
 .rw[show Be CT (E3 b.CA.AK)=false by simp[Be,f],Ad Ax];have l0:=w.Ce;obtain⟨h1,s,i,p1,d⟩:=IV w.pb g;have w1:=w.after p1 d;have l1:=w1.Ce;have j:=kP p1 g.CA;obtain⟨h2,r,r2,p2,c⟩:=ES p1 g.CA ht hv;have e:=w1.after p2 c;have m:=e.Ce;refine⟨_,_,?_,p2,d.trans c⟩;rw[Ag,Vq,rj];simp only[abS,↓reduceIte,l0,i.Ac,l1,j.Ac,r2.Ac,UF,f]
def aMk(w:SW h bi b F si t av)(g:Gz b (n+4) o a)(ht:t.Sm)(hv:Bb t.Au av):F9 h F 102 [Pt si 0] (.tuple []) bi (b.Tm t):=by have l0:=w.Ce;obtain⟨h1,p,l,p1,e⟩:=vr w g ht hv;have w1:=w.after p1 e;have l1:=w1.Ce;obtain⟨r2,p2,d⟩:=vf p1 true;have f:=w1.after p2 d;have m:=f.Ce;obtain⟨k,i,c⟩:=KR p2 false;have j:=f.after i c;have l3:=j.Ce;refine⟨_,_,?_,i,(e.trans d).trans c⟩;rw[Ag,tN,aAT];simp only[abS,l.Ac,l1,r2,m,k]
def aMl(w:SW h bi b F si t av)(g:Gz b (n+4) o a)(ht:t.Sm)(hv:Bb t.Au av):F9 h F 114 [Pt si 0] (.tuple []) bi (b.XR t):=by
 unfold BS.XR;dsimp only;by_cases i:b.HP=0
 .by_cases d:b.W9;.rw[Ad (by simp[i]),Af d];have l0:=w.Ce;have c:=Rp w.pb g;rw[Al d] at c;obtain⟨h1,r,k,p1,f⟩:=IV w.pb g;have w1:=w.after p1 f;have l1:=w1.Ce;obtain⟨h2,q,r2,p2,e⟩:=ES p1 g.CA ht hv;have j:=w1.after p2 e;have l:=j.Ce;refine⟨_,_,?_,p2,f.trans e⟩;rw[Ag,Sv,c_];simp only[abS,l0,c.Ac,k.Ac,l1,r2.Ac,l,A5 i,Cy]
  .rw[Ad (by simp[i]),Ad d];have l0:=w.Ce;have c:=Rp w.pb g;rw[Ak d] at c;obtain⟨h1,r,k,p1,f⟩:=IV w.pb g;have w1:=w.after p1 f;have l1:=w1.Ce;obtain⟨h2,q,r2,p2,e⟩:=ES p1 g.CA ht hv;have j:=w1.after p2 e;have l:=j.Ce;obtain⟨u,p,m⟩:=eH p2 (b.CA.OF 1);have s:=j.after p m;have l3:=s.Ce;refine⟨_,_,?_,p,(f.trans e).trans m⟩;rw[Ag,Sv,c_];simp only[abS,l0,c.Ac,k.Ac,l1,r2.Ac,l,u,A5 i,Cy]
 .by_cases d:b.W9;.rw[Ad (by simp[d]),Af d];have l0:=w.Ce;have c:=Rp w.pb g;rw[Al d] at c;obtain⟨h1,r,k,p1,f⟩:=IV w.pb g;have w1:=w.after p1 f;have l1:=w1.Ce;obtain⟨h2,q,r2,p2,e⟩:=ES p1 g.CA ht hv;have j:=w1.after p2 e;have l:=j.Ce;refine⟨_,_,?_,p2,f.trans e⟩;rw[Ag,Sv,c_];simp only[abS,l0,c.Ac,k.Ac,l1,r2.Ac,l,i,Cy]
  .rw[Af ⟨i,d⟩];have l0:=w.Ce;have c:=Rp w.pb g;rw[Ak d] at c;refine⟨_,_,?_,w.pb,.refl⟩;rw[Ag,Sv,c_];simp only[abS,l0,c.Ac,i,Cy]
def aMm(w:SW h bi b F si t av)(g:Gz b (n+4*a+4) o a)(ht:t.Sm)(hv:Bb t.Au av):F9 h F 115 [Pt si 0] (.tuple []) bi (b.TR t):=by
 unfold BS.TR;dsimp only;cases s:b.has [aTC] with
 |true=>have g1:Gz (b.EE aTC []) (n+4+4*a) o a:=g.EE.dn Ab;rw[Af rfl];have l0:=w.Ce;have i:=SR w g aTC;rw[s] at i;obtain⟨h1,y,m,p1,e⟩:=eL w g aTC [];have w1:=w.after p1 e;have l1:=w1.Ce;obtain⟨h2,x,r2,p2,d⟩:=CW p1 g1;have f:=w1.after p2 d;have p:=f.Ce;obtain⟨z,A,l,j,c⟩:=ES p2 g1.Bf ht hv;have k:=f.after j c;have l3:=k.Ce;obtain⟨v,r,q⟩:=KR j false;have u:=k.after r q;have l4:=u.Ce;refine⟨_,_,?_,r,((e.trans d).trans c).trans q⟩;rw[Ag,cH,O_];simp only[abS,l0,i.Ac,m.Ac,l1,r2.Ac,p,l.Ac,l3,v]
 |false=>have g1:Gz b (n+4+4*a) o a:=g.dn Ab;rw[Ad Ax];have l0:=w.Ce;have i:=SR w g aTC;rw[s] at i;obtain⟨h1,y,m,p1,e⟩:=CW w.pb g1;have w1:=w.after p1 e;have l1:=w1.Ce;obtain⟨h2,x,r2,p2,d⟩:=ES p1 g1.Bf ht hv;have f:=w1.after p2 d;have p:=f.Ce;obtain⟨l,j,c⟩:=KR p2 false;have k:=f.after j c;have l3:=k.Ce;refine⟨_,_,?_,j,(e.trans d).trans c⟩;rw[Ag,cH,O_];simp only[abS,l0,i.Ac,m.Ac,l1,r2.Ac,p,l]
def aDi(w:SW h bi b F si t av)(g:Gz b (n+4*a+5) o a)(ht:t.Sm)(hv:Bb t.Au av):F9 h F 103 [Pt si 0] (.tuple []) bi (b.fmt t):=by have g1:Gz b (n+5+4*a) o a:=g.dn Ab;have l0:=w.Ce;obtain⟨h1,k,f,p1,d⟩:=CW w.pb g1;have w1:=w.after p1 d;have l1:=w1.Ce;obtain⟨h2,j,r2,p2,c⟩:=uz p1 g1.Bf ht hv;have e:=w1.after p2 c;have i:=e.Ce;refine⟨_,_,?_,p2,d.trans c⟩;rw[Ag,tO,aAU];simp only[abS,l0,f.Ac,l1,r2.Ac]
def aDj(w:PB h bi b F)(g:Gz b n o a)(x:Int):∃r,F9 h F 202 [Pt bi 3,I x] r bi {b with AZ:=BS.JN b.AZ x}:=by
 obtain⟨i,f,c,tt,G,w,hc,rfl⟩:=w;have X7:=g.rm.AZ;have l3:=w.l3;obtain⟨fs,Jy,Qi⟩:=hc;have Io:fs.length=b.AZ.length:=by rw[<-Jy,Av]
 have d:=f41 w.pO Qi Ab x;rw[Xz,Jy] at d;by_cases k:Fw x b.AZ<0
 .have e:BS.JN b.AZ x=b.AZ:=by unfold BS.JN;rw[Af k]
  refine⟨ff,h,BK bi G,?_,⟨i,f,c,tt,G,?_,⟨fs,?_,Qi⟩,rfl⟩,.refl⟩;.rw[Ag,dD,Ì];simp only[abS,d.Ac,A5 k]
  .rw[e];exact w
  .rw[e];exact Jy
 .have hlt:(Fw x b.AZ).toNat<fs.length:=by obtain⟨p,hp,e,_⟩:=JK (n:=x) (l:=b.AZ) Ab;omega
  obtain⟨u,r2,hu⟩:=aF3 (h:=h) Qi hlt Ab;have he:((Fw x b.AZ).toNat:Int)=Fw x b.AZ:=Ab;rw[he] at r2;have w':=w.Qm (u:=u) (l:=BS.JN b.AZ x);have zG:Di (BS.JN b.AZ x) u:=⟨Bz fs (Fw x b.AZ).toNat,by unfold BS.JN;rw[Ad k,<-Jy];unfold Bz;simp[HQ,KV],hu⟩;refine⟨.bool true,_,_,?_,⟨i,f,u,tt,G,w',zG,rfl⟩,BL⟩;rw[Ag,dD,Ì];simp only[abS,d.Ac,k,l3,r2.Ac,w.st (k:=3) (v0:=c) rfl (EF.cells hu)]
def aMn(w:SW h bi b F si t av)(g:Gz b (n+4*a+5) o a)(ht:t.Sm)(hv:Bb t.Au av):F9 h F 104 [Pt si 0] (.tuple []) bi (b.BY t):=by have g1:Gz b (n+1+4+4*a) o a:=g.dn Ab;have l0:=w.Ce;obtain⟨h1,y,r,p1,f⟩:=CW w.pb g1;have w1:=w.after p1 f;have l1:=w1.Ce;obtain⟨h2,x,r2,p2,e⟩:=ES p1 g1.Bf ht hv;have j:=w1.after p2 e;have s:=j.Ce;obtain⟨u,v,q,l,d⟩:=vd p2 (g1.Bf.E4 ht);have i:=j.after l d;have l3:=i.Ce;obtain⟨p,k,c⟩:=KR l false;have m:=i.after k c;have l4:=m.Ce;refine⟨_,_,?_,k,((f.trans e).trans d).trans c⟩;rw[Ag,tP,aAV];simp only[abS,l0,r.Ac,l1,r2.Ac,s,q.Ac,l3,p]
def aMo(w:SW h bi b F si t av)(g:Gz b (n+8*(4*(o+a+8)+10)+8*a+100) o a)(ht:t.Sm)(hv:Bb t.Au av):F9 h F 117 [Pt si 0] (.tuple []) bi (b.ej t):=by
 have g0:Gz b (n+5+4*(a+8)+8*(4*(o+a+8)+10)+4*a) o a:=g.dn Ab;have g1:=g0.Bf;unfold BS.ej;dsimp only;cases r:b.Bf.has [aTZ] with
 |true=>simp only[BE];have l0:=w.Ce;obtain⟨h1,y,i,p1,d⟩:=CW w.pb g0;have w1:=w.after p1 d;have l1:=w1.Ce;have e:=SR w1 g1 aTZ;rw[r] at e;obtain⟨h2,x,r2,p2,c⟩:=XU p1 g1 aTZ;have f:=w1.after p2 c;have q:=f.Ce;obtain⟨A,C,v,p,k⟩:=CW p2 g1.DK;have l:=f.after p k;have l3:=l.Ce;obtain⟨z,B,u,m,j⟩:=uz p g1.DK.Bf ht hv;have s:=l.after m j;have l4:=s.Ce;refine⟨_,_,?_,m,((d.trans c).trans k).trans j⟩;rw[Ag,cJ,Q_];simp only[abS,l0,i.Ac,l1,e.Ac,r2.Ac,q,v.Ac,l3,u.Ac]
 |false=>simp only[Ck,DU];have l0:=w.Ce;obtain⟨h1,y,i,p1,d⟩:=CW w.pb g0;have w1:=w.after p1 d;have l1:=w1.Ce;have e:=SR w1 g1 aTZ;rw[r] at e;obtain⟨h2,x,r2,p2,c⟩:=uz p1 (g1.dn (n':=n+5) Ab) ht hv;have f:=w1.after p2 c;have q:=f.Ce;refine⟨_,_,?_,p2,d.trans c⟩;rw[Ag,cJ,Q_];simp only[abS,l0,i.Ac,l1,e.Ac,r2.Ac]
def aHu(w:PB h bi b F)(g:Gz b n o a):∃x r u,Bj h none (Pt bi 0)=some (Pt x 0)/\B9 cx 147 [Pt x 0,I b.CK] h (.tuple [.agg r,I 0]) (h++u)/\r.length=13/\r.getD 10 .nilIface= .bool (b.a.nd b.CK).CS:=by obtain⟨f,i,c,tt,G,w,hc,rfl⟩:=w;have l0:=w.l0;obtain⟨n',m',ps,e⟩:=w.w.pa;obtain⟨r,u,d,K,V,rfl,k,j⟩:=aCG (x:=b.CK) e g.rm.UZ (g.rm.UZ.Bw g.ok.ok _);rw[Af g.ok.CK.1] at d;exact⟨f,_,u,l0,d,rfl,rfl⟩
def aMp(w:SW h bi b F si t av)(g:Gz b (n+4) o a)(ht:t.Sm)(hv:Bb t.Au av):F9 h F 118 [Pt si 0] (.tuple []) bi (b.Ro t):=by
 obtain⟨x,r,u,lt,rn,Jq,LP⟩:=aHu w.pb g;have v:=w.Ce;have A:SW (h++u) bi b F si t av:=w.after w.pb.JX ⟨Ax,λi hi _=>An hi,λ_ hf=> .inl hf⟩;have z:Ew h F (h++u) F:=⟨Ax,λi hi _=>An hi,λ_ hf=> .inl hf⟩;have key:∀(w:SW (h++u) bi b F si t av),∃h' F',W cx (B4 cx 118 [Pt si 0]) (λx vs h1=>x= .ret/\vs=[.tuple []]/\h1=h') h/\PB h' bi (b.Ro t) F'/\Ew (h++u) F h' F':=by
  intro w;unfold BS.Ro;dsimp only;cases y:(b.a.nd b.CK).CS with
  |true=>rw[y] at LP;simp only[BE];have l0:=w.Ce;obtain⟨h1,D,m,p1,e⟩:=ES w.pb g ht hv;have w1:=w.after p1 e;have l1:=w1.Ce;obtain⟨r2,p2,d⟩:=KR p1 false;have f:=w1.after p2 d;have p:=f.Ce;obtain⟨l,j,c⟩:=Gd p2 9;have k:=f.after j c;have l3:=k.Ce;refine⟨_,_,?_,j,(e.trans d).trans c⟩;rw[cK,R_];simp only[abS,↓reduceIte,v,lt,rn.Ac,Jq,LP,l0,m.Ac,l1,r2,p,l]
  |false=>rw[y] at LP;simp only[Ck,DU];have l0:=w.Ce;obtain⟨h1,D,m,p1,e⟩:=IV w.pb g;have w1:=w.after p1 e;have l1:=w1.Ce;obtain⟨h2,E,r2,p2,d⟩:=ES p1 g.CA ht hv;have f:=w1.after p2 d;have p:=f.Ce;obtain⟨l,j,c⟩:=KR p2 false;have k:=f.after j c;have l3:=k.Ce;obtain⟨C,s,q⟩:=Gd j 9;have B:=k.after s q;have l4:=B.Ce;refine⟨_,_,?_,s,((e.trans d).trans c).trans q⟩;rw[cK,R_];simp only[abS,↓reduceIte,v,lt,rn.Ac,Jq,LP,l0,m.Ac,l1,r2.Ac,p,l,l3,C]
 obtain⟨h',F',r',p',x'⟩:=key A;exact⟨h',F',Ag.2 r',p',z.trans x'⟩
def vt(h:Ai)(F:Nat->Prop)(si:Nat)(f:FuncId)(args:List Aa)(r:Aa)(bi:Nat)(b':BS):Prop:=∃h' F',B9 cx f args h r h'/\PB h' bi b' F'/\Ew h (λi=>F i\/i=si) h' (λi=>F' i\/i=si)
def Ew.kW(x:Ew h F h' F'):Ew h (λi=>F i\/i=si) h' (λi=>F' i\/i=si):=
 ⟨x.len,λi hi hn=>x.old i hi λhf=>hn (.inl hf),λi hi=>by
  rcases hi with hi|hi
  .rcases x.BK i hi with h1|h1
   .exact .inl (.inl h1)
   .exact .inr h1
  .exact .inl (.inr hi)⟩
def F9.LN{f:FuncId}{args:List Aa}{r:Aa}(d:F9 h F f args r bi b'):vt h F si f args r bi b':=by obtain⟨h1,g,e,p1,c⟩:=d;exact⟨h1,g,e,p1,c.kW⟩
def aDk(i:Item)(s:Ah)(h:Ai):B9 cx 198 [.agg i.row,.str s] h (.bool (Be [s] i)) h:=by
 rw[Ag,vM,aBI];simp only[Cf,UF];refine⟨λh1=>?_,λh1=>?_⟩;.simp[Be,h1]
 .simp[Be,h1]
def vu(w:SW h bi b F si t av):B9 cx 199 [Pt si 0] h (.tuple [I (DJ b.AK 1).node,.bool b.Ld]) h:=by
 have l0:=w.Ce;have d:=ù w.pb 1;have r2:=XW w.pb;have c:=aDk (DJ b.AK 1) aTF h;rw[UF] at d c;rw[Ag,vN,aBJ];simp only[abS,l0,d.Ac,r2.Ac,c.Ac];refine⟨λh1=>?_,λh1=>?_⟩
 .have:2<=b.AK.length:=by omega
  simp[BS.Ld,this]
 .have:¬2<=b.AK.length:=by omega
  simp[BS.Ld,this]
def aDl:JZ aVk wDD:=ME Cz
def aDm:JZ [108,105] [[108,105]]:=ME Cz
def yS:JZ aUO YC:=ME Cz
def aDn:JZ aTL CT:=ME Cz
def aMq(w:SW h bi b F si t av)(g:Gz b (n+4) o a)(ht:t.Sm)(hv:Bb t.Au av):F9 h F 110 [Pt si 0] (.tuple []) bi (b.p9 t):=by
 have ho:=g.rm.AK;obtain⟨D,p1,z⟩:=KR w.pb false;have w1:=w.after p1 z;have l0:=w.Ce;have l1:=w1.Ce;have g1:Gz {b with fs:=false} (n+4) o a:=g.eq rfl rfl rfl rfl rfl;have ln:=XW w1.pb;have O5:Ev cx 110 [Pt si 0] h λr h'=>r= .tuple []/\∃F',PB h' bi (b.p9 t) F'/\Ew h F h' F':=by
  unfold Ev BS.p9;generalize{b with fs:=false}=c at*;rw[tR,aAX];have e0:(c.AK.length:Int)<=900000000:=by have:=g1.rm.AK;omega
  by_cases y:t.name=[108,105]
  .obtain⟨ws,xg⟩:∃ws,ws=(if t.name=[108,105] then[[108,105]] else wDD):=⟨_,rfl⟩;have hw:JZ [108,105] ws:=by rw[xg,Af y];exact aDm
   rw[<-xg];clear xg;simp only[abS,l0,l1,D,A5 y,Cy,ln.Ac,DI (Ab: -9223372036854775808<=(c.AK.length:Int)-1) (Ab:(c.AK.length:Int)-1<9223372036854775808)];generalize put h bi 14 ff=hs at*;refine En (i:=0) (λn:Nat=>[I ((n:Int)-1)]) (λn h1=>n<=c.AK.length/\c.AK.reverse.find? (BS.Jb ws)=(c.AK.take n).reverse.find? (BS.Jb ws)/\h1=hs) (λn=>n) (λn h1=>∃F',PB h1 bi (c.IU ws) F'/\Ew hs F h1 F') c.AK.length rfl ⟨Ae _,by rw[BW],rfl⟩ ?_ ?_
   .rintro n h1 ⟨hn,ha,rfl⟩;cases n with
    |zero=>
     have e:c.IU ws=c:=by unfold BS.IU;rw[ha];rfl
     simp only[abS,(Ab:¬(0:Int)<=((0:Nat):Int)-1)];exact .HM 0 rfl ⟨F,by rw[e];exact w1.pb,.refl⟩
    |succ n=>
     have hlt:n<c.AK.length:=Ab;have i1:((n+1:Nat):Int)-1=(n:Int):=Ab;have r2:=ù w1.pb (n:Int);rw[HH hlt] at r2;rw[SC hlt,Hv] at ha;generalize hi:c.AK[n]=i at*;rw[UF] at r2;have k:=qE hw i.name;have l:=qE yS i.name;have f:=Ø i.A6 i.name;have sub:=DI (Ab: -9223372036854775808<=(n:Int)-1) (Ab:(n:Int)-1<9223372036854775808);by_cases p:Be ws i=true
     .have d:i.A6=1/\i.name∈ws:=by simpa[Be] using p
      rw[Al d.2] at k;obtain⟨h2,x,s,u,q⟩:=eL w1 g1 i.name i.name;have e:c.IU ws=c.EE i.name i.name:=by unfold BS.IU;rw[ha];simp[BS.Jb,p]
      simp only[abS,↓reduceIte,l1,i1,(Ab:(0:Int)<=(n:Int)),r2.Ac,A5 d.1,k.Bn rfl rfl,s.Ac];exact .HM (n+1) (by rw[i1]) ⟨x,by rw[e];exact u,q⟩
     .have uv:Be ws i=false:=by simpa using p
      have B:BS.Jb ws i=(Dj i&& !(Be YC i)):=by simp[BS.Jb,uv]
      rw[B] at ha;have stop:Dj i=true->Be YC i=false->c.IU ws=c:=λh1 h2=>by unfold BS.IU;rw[ha,h1,h2];simp[uv]
      have go:(Dj i&& !(Be YC i))=false->c.AK.reverse.find? (BS.Jb ws)=(c.AK.take n).reverse.find? (BS.Jb ws):=λh1=>by rw[ha,h1]
      by_cases d:i.A6=1
      .have A:i.name∉ws:=λh=>p (by simp[Be,d,h]);rw[Ak A] at k;by_cases j:Dj i=true
       .have YF:D6 i.A6 i.name=true:=j;rw[YF] at f;by_cases m:i.name∈YC;.rw[Al m] at l;simp only[abS,↓reduceIte,l1,i1,(Ab:(0:Int)<=(n:Int)),r2.Ac,A5 d,k.Bn rfl rfl,l.Bn rfl rfl,f.Bn rfl rfl,sub];exact .next n rfl ⟨Ab,go (by simp[Be,d,m]),rfl⟩ Ab
        .rw[Ak m] at l;simp only[abS,↓reduceIte,l1,i1,(Ab:(0:Int)<=(n:Int)),r2.Ac,A5 d,k.Bn rfl rfl,l.Bn rfl rfl,f.Bn rfl rfl,sub];exact .HM (n+1) (by rw[i1]) ⟨F,by rw[stop j (by simp[Be,m])];exact w1.pb,.refl⟩
       .have YF:D6 i.A6 i.name=false:=by simpa[Dj] using j
        rw[YF] at f;simp only[abS,↓reduceIte,l1,i1,(Ab:(0:Int)<=(n:Int)),r2.Ac,A5 d,k.Bn rfl rfl,f.Bn rfl rfl,sub];exact .next n rfl ⟨Ab,go (by simp[show Dj i=false from YF]),rfl⟩ Ab
      .by_cases j:Dj i=true;.have YF:D6 i.A6 i.name=true:=j;rw[YF] at f;simp only[abS,↓reduceIte,l1,i1,(Ab:(0:Int)<=(n:Int)),r2.Ac,d,f.Bn rfl rfl,sub];exact .HM (n+1) (by rw[i1]) ⟨F,by rw[stop j (by simp[Be,d])];exact w1.pb,.refl⟩
       .have YF:D6 i.A6 i.name=false:=by simpa[Dj] using j
        rw[YF] at f;simp only[abS,↓reduceIte,l1,i1,(Ab:(0:Int)<=(n:Int)),r2.Ac,d,f.Bn rfl rfl,sub];exact .next n rfl ⟨Ab,go (by simp[show Dj i=false from YF]),rfl⟩ Ab
   .rintro n h1 ⟨x,p2,v⟩;obtain⟨E,C,s,u,q⟩:=vr (w1.after p2 v) g1.IU ht hv;simp only[Cf,s.Ac];exact⟨_,rfl,rfl,C,u,(z.trans v).trans q⟩
  .obtain⟨ws,xg⟩:∃ws,ws=(if t.name=[108,105] then[[108,105]] else wDD):=⟨_,rfl⟩;have hw:JZ aVk ws:=by rw[xg,Ad y];exact aDl
   rw[<-xg];clear xg;simp only[abS,l0,l1,D,y,Cy,ln.Ac,DI (Ab: -9223372036854775808<=(c.AK.length:Int)-1) (Ab:(c.AK.length:Int)-1<9223372036854775808)];generalize put h bi 14 ff=hs at*;refine En (i:=0) (λn:Nat=>[I ((n:Int)-1)]) (λn h1=>n<=c.AK.length/\c.AK.reverse.find? (BS.Jb ws)=(c.AK.take n).reverse.find? (BS.Jb ws)/\h1=hs) (λn=>n) (λn h1=>∃F',PB h1 bi (c.IU ws) F'/\Ew hs F h1 F') c.AK.length rfl ⟨Ae _,by rw[BW],rfl⟩ ?_ ?_
   .rintro n h1 ⟨hn,ha,rfl⟩;cases n with
    |zero=>
     have e:c.IU ws=c:=by unfold BS.IU;rw[ha];rfl
     simp only[abS,(Ab:¬(0:Int)<=((0:Nat):Int)-1)];exact .HM 0 rfl ⟨F,by rw[e];exact w1.pb,.refl⟩
    |succ n=>
     have hlt:n<c.AK.length:=Ab;have i1:((n+1:Nat):Int)-1=(n:Int):=Ab;have r2:=ù w1.pb (n:Int);rw[HH hlt] at r2;rw[SC hlt,Hv] at ha;generalize hi:c.AK[n]=i at*;rw[UF] at r2;have k:=qE hw i.name;have l:=qE yS i.name;have f:=Ø i.A6 i.name;have sub:=DI (Ab: -9223372036854775808<=(n:Int)-1) (Ab:(n:Int)-1<9223372036854775808);by_cases p:Be ws i=true
     .have d:i.A6=1/\i.name∈ws:=by simpa[Be] using p
      rw[Al d.2] at k;obtain⟨h2,x,s,u,q⟩:=eL w1 g1 i.name i.name;have e:c.IU ws=c.EE i.name i.name:=by unfold BS.IU;rw[ha];simp[BS.Jb,p]
      simp only[abS,↓reduceIte,l1,i1,(Ab:(0:Int)<=(n:Int)),r2.Ac,A5 d.1,k.Bn rfl rfl,s.Ac];exact .HM (n+1) (by rw[i1]) ⟨x,by rw[e];exact u,q⟩
     .have uv:Be ws i=false:=by simpa using p
      have B:BS.Jb ws i=(Dj i&& !(Be YC i)):=by simp[BS.Jb,uv]
      rw[B] at ha;have stop:Dj i=true->Be YC i=false->c.IU ws=c:=λh1 h2=>by unfold BS.IU;rw[ha,h1,h2];simp[uv]
      have go:(Dj i&& !(Be YC i))=false->c.AK.reverse.find? (BS.Jb ws)=(c.AK.take n).reverse.find? (BS.Jb ws):=λh1=>by rw[ha,h1]
      by_cases d:i.A6=1
      .have A:i.name∉ws:=λh=>p (by simp[Be,d,h]);rw[Ak A] at k;by_cases j:Dj i=true
       .have YF:D6 i.A6 i.name=true:=j;rw[YF] at f;by_cases m:i.name∈YC;.rw[Al m] at l;simp only[abS,↓reduceIte,l1,i1,(Ab:(0:Int)<=(n:Int)),r2.Ac,A5 d,k.Bn rfl rfl,l.Bn rfl rfl,f.Bn rfl rfl,sub];exact .next n rfl ⟨Ab,go (by simp[Be,d,m]),rfl⟩ Ab
        .rw[Ak m] at l;simp only[abS,↓reduceIte,l1,i1,(Ab:(0:Int)<=(n:Int)),r2.Ac,A5 d,k.Bn rfl rfl,l.Bn rfl rfl,f.Bn rfl rfl,sub];exact .HM (n+1) (by rw[i1]) ⟨F,by rw[stop j (by simp[Be,m])];exact w1.pb,.refl⟩
       .have YF:D6 i.A6 i.name=false:=by simpa[Dj] using j
        rw[YF] at f;simp only[abS,↓reduceIte,l1,i1,(Ab:(0:Int)<=(n:Int)),r2.Ac,A5 d,k.Bn rfl rfl,f.Bn rfl rfl,sub];exact .next n rfl ⟨Ab,go (by simp[show Dj i=false from YF]),rfl⟩ Ab
      .by_cases j:Dj i=true;.have YF:D6 i.A6 i.name=true:=j;rw[YF] at f;simp only[abS,↓reduceIte,l1,i1,(Ab:(0:Int)<=(n:Int)),r2.Ac,d,f.Bn rfl rfl,sub];exact .HM (n+1) (by rw[i1]) ⟨F,by rw[stop j (by simp[Be,d])];exact w1.pb,.refl⟩
       .have YF:D6 i.A6 i.name=false:=by simpa[Dj] using j
        rw[YF] at f;simp only[abS,↓reduceIte,l1,i1,(Ab:(0:Int)<=(n:Int)),r2.Ac,d,f.Bn rfl rfl,sub];exact .next n rfl ⟨Ab,go (by simp[show Dj i=false from YF]),rfl⟩ Ab
   .rintro n h1 ⟨x,p2,v⟩;obtain⟨E,C,s,u,q⟩:=vr (w1.after p2 v) g1.IU ht hv;simp only[Cf,s.Ac];exact⟨_,rfl,rfl,C,u,(z.trans v).trans q⟩
 obtain⟨r,h',hr,rfl,F',p',x'⟩:=O5.ret;exact⟨h',F',hr,p',x'⟩
def aDo(w:PB h bi b F)(g:Gz b n o a)(nm:Ah):B9 cx 201 [Pt bi 3,.str nm] h (I (Ff nm b.AZ)) h/\(0<=Ff nm b.AZ->∃v p,Bj h none (Pt bi 3)=some v/\Az (.FA 3) [v,I (Ff nm b.AZ)]=some p/\∃q,Az (.Fb 0) [p]=some q/\Bj h none q=some (I (b.AZ.getD (Ff nm b.AZ).toNat Co.zero).node)):=by
 obtain⟨j,i,c,tt,G,w,hc,rfl⟩:=w;have X7:=g.rm.AZ;obtain⟨fs,Jy,Qi⟩:=hc;have Io:fs.length=b.AZ.length:=by rw[<-Jy,Av]
 have d:=aFZ w.pO Qi Ab nm;rw[xZ,Jy] at d;refine⟨d,λh0=>?_⟩;obtain⟨k,e,f⟩:=XH h0;rw[f,BD];have hk:k<fs.length:=Ab;have ea:=Bv.Df (k:= .i64) Qi hk;have hg:b.AZ.getD k Co.zero=fs[k].c:=by rw[AR,<-Jy,Cd,As hk];rfl
 exact⟨c,_,w.l3,ea,_,rfl,by rw[hg];rfl⟩
def aMr(w:SW h bi b F si t av)(g:Gz b (n+8*(4*(o+8)+10)+4*(a+8)+5) o a)(ht:t.Sm)(hv:Bb t.Au av):F9 h F 116 [Pt si 0] (.tuple []) bi (b.ee t):=by
 obtain⟨l,A⟩:=aDo w.pb g [97];unfold BS.ee BS.ZS;dsimp only;by_cases r:Ff [97] b.AZ<0;.rw[Af r];have l0:=w.Ce;obtain⟨h1,G,e,p1,c⟩:=aDi w (g.dn (n':=n+4*a+5) Ab) ht hv;have w1:=w.after p1 c;have l1:=w1.Ce;refine⟨_,_,?_,p1,c⟩;rw[Ag,cI,P_];simp only[Cf,Nat.reduceLeDiff,↓reduceIte,Br,bK,l0,e.Ac,l1,l.Ac,(Ab:¬(0:Int)<=Ff [97] b.AZ)]
 .rw[Ad r];obtain⟨v,p,E,D,q,C,B⟩:=A Ab;have g0:Gz b (n+4*(a+8)+5+8*(4*(o+8)+10)) o a:=g.dn Ab;generalize(b.AZ.getD (Ff [97] b.AZ).toNat Co.zero).node=nd at*;have l0:=w.Ce;obtain⟨h1,G,e,p1,c⟩:=XU w.pb g0 [97];have w1:=w.after p1 c;have l1:=w1.Ce;obtain⟨_,h2,L,r2,p2,j⟩:=aDj p1 g0.DK nd;have k:=w1.after p2 j;have z:=k.Ce;obtain⟨_,I,K,x,y,i⟩:=XV p2 (g0.DK.sub (lo:=(b.DK [97]).AK) (lc:=BS.JN (b.DK [97]).AZ nd) (lt:=(b.DK [97]).tm) (AF _) PF (Ae _)) nd;have d:=k.after y i;have l3:=d.Ce;obtain⟨H,J,u,m,f⟩:=aDi d (g0.DK.sub (lo:=Dt nd (b.DK [97]).AK) (lc:=BS.JN (b.DK [97]).AZ nd) (lt:=(b.DK [97]).tm) Ih PF (Ae _)) ht hv;have s:=d.after m f;have l4:=s.Ce;refine⟨_,_,?_,m,((c.trans j).trans i).trans f⟩;rw[Ag,cI,P_];simp only[Cf,Nat.reduceLeDiff,↓reduceIte,Br,bK,l0,e.Ac,l1,r2.Ac,z,x.Ac,l3,u.Ac,l4,l.Ac,(Ab:(0:Int)<=Ff [97] b.AZ),E,D,C,B]
def kX{x:A3}{l:List A3}:BS.PE (x::l)=if x.name=aUG then decide (EC x.value=aUs) else BS.PE l:=by
 unfold BS.PE;rw[Hv];by_cases h:x.name=aUG;.simp[h]
 .simp[h]
def aMs(ht:t.Sm)(hv:Bb t.Au av)(h:Ai):B9 cx 195 [.agg (B1 t av)] h (.bool (BS.PE t.Au)) h:=by
 have xi:AO=140737488355328:=rfl;have Gm:Bv 3 (t.Au.map A3.row) av:=hv;have e:=Bv.F0 Gm;have hb:=ht.Au.1;have hcl:EC aUs=aUs:=Pj AM;rw[Ag,vJ,aBF];simp only[Cf,e];refine BM (λn:Nat=>[ff,I (n:Int)]) (λn h1=>n<=t.Au.length/\h1=h/\BS.PE t.Au=BS.PE (t.Au.drop n)) (λn=>t.Au.length-n) 0 rfl ⟨A7 _,rfl,rfl⟩ ?_;rintro n h1 ⟨hn,rfl,ha⟩;rcases Bi n t.Au.length with hlt|GX
 .have d:=Bv.Df (k:= .i64) Gm hlt;have MP:=(ht.Au.2 _ (AY hlt)).2;have c:=sr t.Au[n].value aUs Ab AM;rw[hcl] at c;rw[Ay hlt,kX] at ha;rw[A3.row] at d;simp only[abS,Nat.reduceLeDiff,↓reduceIte,(Ab:(n:Int)<(t.Au.length:Int)),d,c.Bn rfl rfl,CI (Ab:n<9223372036854775807)];refine⟨λh2=>?_,λh2=>?_⟩;.rw[ha,Af h2]
  .rw[Ad h2] at ha;exact Bq.next (n+1) rfl ⟨hlt,rfl,ha⟩ Ab
 .rw[AT GX] at ha;simp only[abS,(Ab:¬(n:Int)<(t.Au.length:Int)),ha];rfl
def SW.ú(w:SW h bi b F si t av)(nm:Ah):CL h 1 (Pt si 2) (.str nm)=some (put h si 2 (.str nm))/\SW (put h si 2 (.str nm)) bi b F si {t with name:=nm} av/\Ew h (λi=>F i\/i=si) (put h si 2 (.str nm)) (λi=>F i\/i=si):=by have hs:At h si 2 (.str t.name):=⟨_,w.sc,rfl⟩;refine⟨hs.store (u:= .str nm) rfl,⟨w.pb.DQ λi hi=>CV λe=>w.no (e▸hi),?_,w.no⟩,⟨by rw[Lo];exact Ae _,λi _ hn=>CV λe=>hn (.inr e),λ_ h=> .inl h⟩⟩;rw[Jn w.sc];rfl
def aHv(w:SW h bi b F si t av)(g:Gz b (n+4*a+4) o a)(ht:t.Sm)(hv:Bb t.Au av):vt h F si 105 [Pt si 0] (.tuple []) bi (b.empty t):=by
 have z:Gz b (n+4) o a:=g.dn Ab;have g1:Gz b (n+4+4*a) o a:=g.dn Ab;unfold BS.empty;by_cases m:t.name=[104,114];.rw[Af m];refine F9.LN ?_;have l0:=w.Ce;obtain⟨h1,s,k,p1,d⟩:=IV w.pb z;have w1:=w.after p1 d;have l1:=w1.Ce;obtain⟨h2,x,r2,p2,c⟩:=qG p1 z.CA ht hv;have f:=w1.after p2 c;have l:=f.Ce;obtain⟨q,j,i⟩:=KR p2 false;have p:=f.after j i;have l3:=p.Ce;refine⟨_,_,?_,j,(d.trans c).trans i⟩;rw[Ag,Ls,Yv];simp only[abS,l0,k.Ac,l1,r2.Ac,l,q,A5 m]
 rw[Ad m];by_cases e:t.name∈p8
 .rw[Af e];refine F9.LN ?_;have l0:=w.Ce;obtain⟨h1,s,k,p1,d⟩:=qG w.pb z ht hv;have w1:=w.after p1 d;have l1:=w1.Ce;obtain⟨r2,p2,c⟩:=KR p1 b.fs;have f:=w1.after p2 c;have l:=f.Ce;simp only[p8,AG,J1,lM] at e;by_cases v:t.name=aU9
  .skip
   refine⟨_,_,?_,p2,d.trans c⟩;rw[Ag,Ls,Yv];simp only[abS,l0,k.Ac,l1,r2,m,A5 v]
  by_cases y:t.name=aUR;.refine⟨_,_,?_,p2,d.trans c⟩;rw[Ag,Ls,Yv];simp only[abS,l0,k.Ac,l1,r2,m,v,A5 y]
  .have D:t.name=aVa:=by simpa[v,y] using e
   refine⟨_,_,?_,p2,d.trans c⟩;rw[Ag,Ls,Yv];simp only[abS,l0,k.Ac,l1,r2,m,v,y,A5 D]
 rw[Ad e];simp only[p8,AG,J1,lM,Oi] at e;by_cases r:t.name=aUu
 .rw[Af r];refine F9.LN ?_;cases kf:b.fs with
  |true=>have l0:=w.Ce;obtain⟨h1,s,k,p1,d⟩:=CW w.pb g1;have w1:=w.after p1 d;have l1:=w1.Ce;have B:=aMs ht hv h1;obtain⟨h2,x,r2,p2,c⟩:=qG p1 g1.Bf ht hv;have f:=w1.after p2 c;have l:=f.Ce;obtain⟨q,j,i⟩:=KR p2 (BS.PE t.Au);have p:=f.after j i;have l3:=p.Ce;rw[kf] at l0;refine⟨_,_,?_,j,(d.trans c).trans i⟩;rw[Ag,Ls,Yv];simp only[abS,l0,k.Ac,l1,B.Ac,r2.Ac,l,q,m,e.1,e.2.1,e.2.2,A5 r]
  |false=>have l0:=w.Ce;obtain⟨h1,s,k,p1,d⟩:=CW w.pb g1;have w1:=w.after p1 d;have l1:=w1.Ce;obtain⟨h2,x,r2,p2,c⟩:=qG p1 g1.Bf ht hv;have f:=w1.after p2 c;have l:=f.Ce;obtain⟨q,j,i⟩:=KR p2 false;have p:=f.after j i;have l3:=p.Ce;rw[kf] at l0;refine⟨_,_,?_,j,(d.trans c).trans i⟩;rw[Ag,Ls,Yv];simp only[abS,l0,k.Ac,l1,r2.Ac,l,q,m,e.1,e.2.1,e.2.2,A5 r]
 rw[Ad r];by_cases u:t.name=aTD;.rw[Af u];have C:=w.Ce;obtain⟨s0,w,A⟩:=w.ú aTG;have Ir:({t with name:=aTG}:DH).Sm:=ht.rn AM;have l0:=w.Ce;obtain⟨h1,s,k,p1,d⟩:=CW w.pb g1;have w1:=w.after p1 d;have l1:=w1.Ce;obtain⟨h2,x,r2,p2,c⟩:=qG p1 g1.Bf Ir hv;have f:=w1.after p2 c;have l:=f.Ce;obtain⟨q,j,i⟩:=KR p2 false;have p:=f.after j i;have l3:=p.Ce;refine⟨_,_,?_,j,A.trans ((d.trans c).trans i).kW⟩;rw[Ag,Ls,Yv];simp only[abS,C,m,e.1,e.2.1,e.2.2,r,A5 u,s0,l0,k.Ac,l1,r2.Ac,l,q]
 .rw[Ad u];refine F9.LN ?_;have l0:=w.Ce;obtain⟨h1,s,k,p1,d⟩:=CW w.pb g1;have w1:=w.after p1 d;have l1:=w1.Ce;obtain⟨h2,x,r2,p2,c⟩:=qG p1 g1.Bf ht hv;have f:=w1.after p2 c;have l:=f.Ce;obtain⟨q,j,i⟩:=KR p2 false;have p:=f.after j i;have l3:=p.Ce;refine⟨_,_,?_,j,(d.trans c).trans i⟩;rw[Ag,Ls,Yv];simp only[abS,l0,k.Ac,l1,r2.Ac,l,q,m,e.1,e.2.1,e.2.2,r,u]
end
end Go.Am
end
