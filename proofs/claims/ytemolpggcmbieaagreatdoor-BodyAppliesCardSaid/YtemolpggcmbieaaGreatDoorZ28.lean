/- Lemmas -/
import Derived.Test.YtemolpggcmbieaaGreatDoorZ26
set_option linter.all false
noncomputable section
set_option maxRecDepth 100000
section
namespace Go.Am
open Go
structure DU where
 k:Int
 name:Ak
 hn:Bool
 JN:Ak
 hp:Bool
 sys:Ak
 hs:Bool
 q:Bool
 Av:List A7
 sc:Bool
 data:Ak
 r:Int
namespace DU
def ok(t:DU):Prop:=1<=t.k/\t.k<=6
instance(t:DU):Decidable t.ok:=by unfold ok;infer_instance
def st(t:DU)(ws:List Ak):Prop:=t.k=2/\t.name∈ws
instance(t:DU)(ws:List Ak):Decidable (t.st ws):=by unfold st;infer_instance
def en(t:DU)(ws:List Ak):Prop:=t.k=3/\t.name∈ws
instance(t:DU)(ws:List Ak):Decidable (t.en ws):=by unfold en;infer_instance
def kI(t:DU)(ws:List Ak):Prop:=t.k=3/\t.name∉ws
instance(t:DU)(ws:List Ak):Decidable (t.kI ws):=by unfold kI;infer_instance
end DU
def gp(r:Int):Prop:=(9<=r/\r<=10)\/(12<=r/\r<=13)\/r=32
instance(r:Int):Decidable (gp r):=by unfold gp;infer_instance
namespace DU
def HA(t:DU):Prop:=t.k=5/\gp t.r
instance(t:DU):Decidable t.HA:=by unfold HA;infer_instance
end DU
def Mm(nm:Ak):DU:=⟨2,nm,false,[],false,[],false,false,[],false,[],0⟩
def eHB:List Ak:=[aTx,aTy,aTu,[98,114]]
def um:List Ak:=[aTx,aTv,aTy,aTu,[98,114]]
def pU:List Ak:=[aTv,aTy,aTu,[98,114]]
def eNo:List Ak:=[aTE,[98,114]]
def XS:List Ak:=[[98,97,115,101],aUO,aUU,aVr,[109,101,116,97]]
def sNS:List Ak:=[aUM,aVd]
def aDb:List Ak:=[aUO,aUU,aVr,[109,101,116,97],aUM,aVd]
def sHN:List Ak:=[aTx,aTE]
def HR:List Ak:=[[98,97,115,101],aUO,aUU,aVr,[109,101,116,97],aUM,aTV,aVd,aTv,aTJ]
def sT1:List Ak:=[aTU,aT8,aUi,aUh,aUj]
def sTd:List Ak:=[[116,100],[116,104]]
def eB:List Ak:=[aUV,[97,114,116,105,99,108,101],[97,115,105,100,101],aU0,[99,101,110,116,101,114],[100,101,116,97,105,108,115],[100,105,97,108,111,103],[100,105,114],[100,105,118],[100,108],aU8,aU1,[102,105,103,117,114,101],[102,111,111,116,101,114],[104,101,97,100,101,114],[104,103,114,111,117,112],[109,97,105,110],[109,101,110,117],[110,97,118],[111,108],[112],[115,101,97,114,99,104],[115,101,99,116,105,111,110],[115,117,109,109,97,114,121],[117,108]]
def ð:List Ak:=[[112,114,101],[108,105,115,116,105,110,103]]
def ñ:List Ak:=[[98],[98,105,103],[99,111,100,101],[101,109],[102,111,110,116],[105],[115],[115,109,97,108,108],[115,116,114,105,107,101],[115,116,114,111,110,103],[116,116],[117]]
def kJ:List Ak:=[aUJ,aUA,aUP]
def eC:List Ak:=[[97,114,101,97],[98,114],[101,109,98,101,100],aU9,aUX,[107,101,121,103,101,110],[119,98,114],aUT,aU3,aUK,aU4,[104,114]]
def yE:List Ak:=[aTU,aU6,aT8,[102,114,97,109,101],aTx,aUi,[116,100],aUh,[116,104],aUj,[116,114]]
def ò:List Ak:=[aUt,aVn,aUL,[110,111,101,109,98,101,100],aUp]
def yF:List Ak:=[[114,98],aUI,[114,112],[114,116]]
def ó:List Ak:=[aUY,[115,118,103]]
def yG:List Ak:=[[108,105],[100,100],[100,116]]
def ô:List Ak:=[aT6,aTO]
def PG:List Ak:=[aTu,aTy]
def eD:List Ak:=[aUV,[97,114,116,105,99,108,101],[97,115,105,100,101],aU0,aTw,[99,101,110,116,101,114],[100,101,116,97,105,108,115],[100,105,97,108,111,103],[100,105,114],[100,105,118],[100,108],aU8,aU1,[102,105,103,117,114,101],[102,111,111,116,101,114],[104,101,97,100,101,114],[104,103,114,111,117,112],[108,105,115,116,105,110,103],[109,97,105,110],[109,101,110,117],[110,97,118],[111,108],[112,114,101],[115,101,97,114,99,104],[115,101,99,116,105,111,110],[115,117,109,109,97,114,121],[117,108]]
def õ:List Ak:=[[97],[98],[98,105,103],[99,111,100,101],[101,109],[102,111,110,116],[105],aTT,[115],[115,109,97,108,108],[115,116,114,105,107,101],[115,116,114,111,110,103],[116,116],[117]]
def yH:List Ak:=[[112],[108,105],[100,100],[100,116]]
def YI:List Ak:=[aUV,[100,105,118],[112]]
def wDD:List Ak:=[[100,100],[100,116]]
def ö:List Ak:=[aU3,aUK,aU4]
namespace BS
def Df(b:BS)(t:DU):BS:=b.E5 t.name t.Av 1
def Ns(b:BS)(t:DU):BS:=(b.Df t).IQ
def eE(b:BS):BS:={b with a:=b.a.set b.Cy {b.a.nd b.Cy with CS:=true}}
def UD(b:BS)(t:DU):BS:={b with a:=(b.a.add {kind:=3,Cy:=b.Cy,name:=t.name,JN:=t.JN,sys:=t.sys}).If b.Cy (b.a.len+1) 0}
def again(b:BS)(m:Int):BS×Bool:=({b with mode:=m},true)
def Xa(b:BS):Prop:=0<=AX (Bf [Bb]) b.AL
instance(b:BS):Decidable b.Xa:=by unfold Xa;infer_instance
def has(b:BS)(ws:List Ak):Bool:=Pq (Bf ws) (N0 1) b.AL.reverse
def EI(b:BS)(nm ex:Ak):BS:={b with AL:=DV Db (Bf [nm]) (DV (EB ex) Db b.AL)}
def Jv(b:BS)(t:DU):BS:=if b.Xa\/b.AL=[] then b else b.GM t.Av (DK b.AL 0).node
def Ll(b:BS):Bool:=decide (2<=b.AL.length)&&Bf [aTy] (DK b.AL 1)
def Of(b:BS)(t:DU):BS:=
 if b.Xa\/b.AL=[] then b else if t.name=aTu then b.GM t.Av (DK b.AL 0).node
 else if b.Ll then({b with fs:=false}:BS).GM t.Av (DK b.AL 1).node else b
def KN(CS:DU->Bool)(b:BS)(t:DU):BS×Bool:=
 if¬t.ok then(b,false)
 else if t.HA then(b,false)
 else if t.k=4 then(b.DM t.data b.Cy,false)
 else if t.k≠1 then b.eE.again 2
 else
  let b1:=b.UD t
  let b2:=if CS t then b1.eE else b1
  ({b2 with mode:=2},false)
def GG(b:BS)(t:DU):BS×Bool:=
 if¬t.ok then(b,false)
 else if t.k=1 then(b,false)
 else if t.HA then(b,false)
 else if t.kI eHB then(b,false)
 else if t.k=4 then(b.DM t.data b.Cy,false)
 else if t.st [aTu] then({b.Df t with mode:=3},false)
 else(b.Df (Mm aTu)).again 3
def GH(b:BS)(t:DU):BS×Bool:=
 if¬t.ok then(b,false)
 else if t.k=1 then(b,false)
 else if t.HA then(b,false)
 else if t.kI eHB then(b,false)
 else if t.k=4 then(b.DM t.data 0,false)
 else if t.st [aTu] then(b.Jv t,false)
 else if t.st [aTx] then({b.Df t with head:=b.No 1,mode:=4},false)
 else({b.Df (Mm aTx) with head:=b.No 1}:BS).again 4
def DH(b:BS)(t:DU):BS×Bool:=
 if¬t.ok then(b,false)
 else if t.k=1 then(b,false)
 else if t.st [aTx] then(b,false)
 else if t.kI um then(b,false)
 else if t.HA then(b.OM t.r,false)
 else if t.k=4 then(b.DM t.data 0,false)
 else if t.st [aTu] then(b.Jv t,false)
 else if t.st XS then(b.Ns t,false)
 else if t.st [aTJ] then(b.Eu t.name t.Av 2,false)
 else if t.st sNS then(b.Eu t.name t.Av 3,false)
 else if t.st [aTV] then(b.Eu t.name t.Av 4,false)
 else if t.st [aTE] then({b.Df t with mode:=5},false)
 else if t.en [aTx] then({b.IQ with mode:=6},false)
 else if t.st [Bb] then
  let b1:=b.Df t
  ({b1 with AY:=b1.AY++[Cp.zero],fs:=false,mode:=18,tm:=b1.tm++[18]},false)
 else if t.en [Bb] then(b.De,false)
 else b.IQ.again 6
def GI(b:BS)(t:DU):BS×Bool:=
 if¬t.ok then(b,false)
 else if t.k=1 then(b,false)
 else if t.st sHN then(b,false)
 else if t.kI eNo then(b,false)
 else if t.st [aTu] then(b.Jv t,false)
 else if t.en [aTE] then({b.IQ with mode:=4},false)
 else if t.HA then b.DH t
 else if t.k=4 then b.DH t
 else if t.st aDb then b.DH t
 else b.IQ.again 4
def HB(n:Int):Item:=⟨n,1,aTx,false⟩
def HJ(b:BS)(t:DU):BS×Bool:=
 let r:=({b with AL:=b.AL++[HB b.head]}:BS).DH t
 ({r.1 with AL:=Di b.head r.1.AL},r.2)
def Fk(b:BS)(t:DU):BS×Bool:=
 if¬t.ok then(b,false)
 else if t.k=1 then(b,false)
 else if t.st [aTx] then(b,false)
 else if t.kI pU then(b,false)
 else if t.HA then(b.OM t.r,false)
 else if t.k=4 then(b.DM t.data 0,false)
 else if t.st [aTu] then(b.Jv t,false)
 else if t.st [aTy] then({b.Df t with fs:=false,mode:=7},false)
 else if t.st [aTD] then({b.Df t with mode:=20},false)
 else if t.st HR then b.HJ t
 else if t.en [Bb] then b.DH t
 else(b.Df (Mm aTy)).again 7
def MT(b:BS)(t:DU):BS×Bool:=
 if¬t.ok then(b,false)
 else if t.k=5 then(b.OM t.r,false)
 else if t.k=6 then b.IQ.again b.Nn
 else if t.k=3 then({b.IQ with mode:=b.Nn},false)
 else(b,false)
def aDc(b:BS):BS:={b with tm:=b.tm.dropLast}
def GU(b:BS)(m:Int):BS×Bool:=({b with tm:=b.tm.dropLast++[m]}:BS).again m
def QK(b:BS)(t:DU):BS:=
 if t.r=0 then b else
 let b1:=b.Bg.OM t.r
 if t.HA then b1 else{b1 with fs:=false}
def TO(b:BS):BS×Bool:=
 if b.Xa then(({b with AL:=DV Db (Bf [Bb]) b.AL,AY:=FD b.AY,tm:=b.tm.dropLast}:BS).IY,true)
 else({b with stop:=true},false)
def Fu(b:BS)(t:DU):BS×Bool:=
 if¬t.ok then(b,false)
 else if t.k=5 then(b.QK t,false)
 else if t.k=4 then(b.DM t.data 0,false)
 else if t.k=1 then(b,false)
 else if t.st HR then b.DH t
 else if t.en [Bb] then b.DH t
 else if t.st sT1 then b.GU 9
 else if t.st [aU6] then b.GU 12
 else if t.st [[116,114]] then b.GU 13
 else if t.st sTd then b.GU 14
 else if t.k=2 then b.GU 7
 else if t.k=3 then(b,false)
 else b.TO
def block(b:BS)(t:DU):BS:=b.CD.Df t
def Og(b:BS)(t:DU):BS:=
 let b1:=b.CD
 (if Bf Da (E4 b1.AL) then b1.IQ else b1).Df t
def Ti(b:BS)(t:DU):BS:={b.block t with skip:=true,fs:=false}
def XT(b:BS)(t:DU):BS:=
 if b.HQ≠0/\¬b.Xa then b else
 let b1:=b.CD
 if b.Xa then b1.Df t else{b1.Df t with HQ:=b1.No 1}
def Jh(ws:List Ak)(i:Item):Bool:=Bf ws i||(Dp i&& !(Bf YI i))
def I0(b:BS)(ws:List Ak):BS:=match b.AL.reverse.find? (Jh ws) with
 |some i=>if Bf ws i then b.EI i.name i.name else b
 |none=>b
def pV(b:BS)(t:DU):BS:=(({b with fs:=false}:BS).I0 (if t.name=[108,105] then[[108,105]] else wDD)).block t
def TP(b:BS)(t:DU):BS:=
 let b1:=if b.has [aTw] then b.EI aTw [] else b
 {b1.Bg.Df t with fs:=false}
def fmt(b:BS)(t:DU):BS:=b.Bg.Hm t.name t.Av
def JW(l:List Cp)(n:Int):List Cp:=if FC n l<0 then l else BB l (FC n l).toNat
def ZR(b:BS):BS:=
 let k:=Fj [97] b.AY
 if k<0 then b else
 let n:=(b.AY.getD k.toNat Cp.zero).node
 let b1:=b.DN [97]
 {b1 with AY:=JW b1.AY n,AL:=Di n b1.AL}
def eo(b:BS)(t:DU):BS:=b.ZR.fmt t
def et(b:BS)(t:DU):BS:=
 let b1:=b.Bg
 (if b1.has [aTT] then(b1.DN aTT).Bg else b1).Hm t.name t.Av
def B0(b:BS)(t:DU):BS:=
 let b1:=b.Bg.Df t
 {b1 with AY:=b1.AY++[Cp.zero],fs:=false}
def Rl(b:BS)(t:DU):BS:=
 let b1:=if(b.a.nd b.Cy).CS then b else b.CD
 {b1.Df t with fs:=false,mode:=9}
def PH(l:List A7):Bool:=match l.find? λa=>decide (a.name=aUz) with
 |some a=>decide (EH a.value=aUn)
 |none=>false
def empty(b:BS)(t:DU):BS:=
 if t.name=[104,114] then{b.CD.Ns t with fs:=false}
 else if t.name∈ö then{b.Ns t with fs:=b.fs}
 else if t.name=aUT then{b.Bg.Ns t with fs:=b.fs&&PH t.Av}
 else{b.Bg.Ns {t with name:=if t.name=aUX then aU9 else t.name} with fs:=false}
def raw(b:BS)(t:DU):BS:=
 if t.name=aUp then{b.block t with sw:=5}
 else if t.name=aUt then{b.Eu t.name t.Av 2 with skip:=true,fs:=false}
 else if t.name=aVn then({b.CD.Bg with fs:=false}:BS).Eu t.name t.Av 3
 else if t.name=aUL then({b with fs:=false}:BS).Eu t.name t.Av 3
 else b.Eu t.name t.Av 3
def TQ(b:BS)(t:DU):BS:=
 {b.Bg.Df t with fs:=false,mode:=if b.mode=9\/b.mode=11\/b.mode=13\/b.mode=14\/b.mode=15 then 17 else 16}
def TR(b:BS)(t:DU):BS:=(if Bf [aTO] (E4 b.AL) then b.IQ else b).Bg.Df t
def pW(b:BS)(t:DU):BS:=
 (if b.has [aUB] then{b with AL:=DV (EB (if t.name=[114,112]\/t.name=[114,116] then aUI else[])) Db b.AL} else b).Df t
def Oh(b:BS)(t:DU):BS:=
 let b1:=b.Bg.E5 t.name t.Av (if t.name=aUY then 3 else 2)
 if t.sc then b1.IQ else b1
def Kw(b:BS)(t:DU):BS:=
 if b.Ll=false\/b.fs=false then b else
 {({b with a:=b.a.cut (DK b.AL 1).node,AL:=b.AL.take 1}:BS).Df t with mode:=20}
def opens(b:BS)(t:DU):BS×Bool:=
 if t.name∈HR then b.DH t
 else if t.name∈eB then(b.block t,false)
 else if t.name∈Da then(b.Og t,false)
 else if t.name∈ð then(b.Ti t,false)
 else if t.name∈ñ then(b.fmt t,false)
 else if t.name∈kJ then(b.B0 t,false)
 else if t.name∈eC then(b.empty t,false)
 else if t.name∈yE then(b,false)
 else if t.name∈ò then(b.raw t,false)
 else if t.name∈yF then(b.pW t,false)
 else if t.name∈ó then(b.Oh t,false)
 else if t.name∈yG then(b.pV t,false)
 else if t.name∈ô then(b.TR t,false)
 else if t.name∈PG then(b.Of t,false)
 else if t.name=aTD then(b.Kw t,false)
 else if t.name=aUg then(b.XT t,false)
 else if t.name=aTw then(b.TP t,false)
 else if t.name=[97] then(b.eo t,false)
 else if t.name=aTT then(b.et t,false)
 else if t.name=aTL then(b.Rl t,false)
 else if t.name=aT9 then(b.TQ t,false)
 else(b.Bg.Df t,false)
def SF(b:BS)(t:DU):BS×Bool:=if b.has [aTy] then({b with mode:=19},decide (t.name=aTu)) else(b,false)
def JX(b:BS)(t:DU):BS:=if b.has [t.name] then b.EI t.name [] else b
def Oi(b:BS):BS:=if b.has Da then{b with AL:=DV Db (Bf Da) (DV (EB []) Db b.AL)} else b
def Qg(b:BS)(t:DU):BS:=if b.has [t.name] then{b.EI t.name [] with AY:=FD b.AY} else b
def OG(b:BS)(sc:Int)(q:Item->Bool):Bool:=Pq q (N0 sc) b.AL.reverse
def Oj(b:BS)(t:DU):BS:=
 let s:=b.OG (if t.name=[112] then 3 else if t.name=[108,105] then 2 else 1) (Bf [t.name])
 if s then b.EI t.name t.name
 else if t.name=[112] then(b.Df (Mm [112])).EI t.name t.name else b
def VC(b:BS)(t:DU):BS:=
 if b.Xa then b.JX t
 else if b.HQ≠0/\b.OG 1 (BU b.HQ) then{b with HQ:=0,AL:=Di b.HQ (DV (EB []) Db b.AL)}
 else{b with HQ:=0}
def PI(b:BS)(t:DU):BS×Bool:=
 if t.name=Bb then b.DH t
 else if t.name∈PG then b.SF t
 else if t.name∈eD then(b.JX t,false)
 else if t.name∈õ then(b.DN t.name,false)
 else if t.name∈Da then(b.Oi,false)
 else if t.name∈kJ then(b.Qg t,false)
 else if t.name∈yH then(b.Oj t,false)
 else if t.name=aUg then(b.VC t,false)
 else if t.name=[98,114] then(b.empty (Mm [98,114]),false)
 else(b.Dw t.name,false)
def MU(b:BS)(t:DU):BS×Bool:=
 if¬t.ok then(b,false)
 else if t.k=5 then(b.QK t,false)
 else if t.k=4 then(b.DM t.data 0,false)
 else if t.k=6 then(if 0<b.tm.length then b.Fu t else({b with stop:=true},false))
 else if t.k=2 then b.opens t
 else if t.k=3 then b.PI t
 else(b,false)
def apply(CS:DU->Bool)(b:BS)(t:DU):BS×Bool:=
 if¬t.ok then(b,false)
 else if b.mode=1 then b.KN CS t
 else if b.mode=2 then b.GG t
 else if b.mode=3 then b.GH t
 else if b.mode=4 then b.DH t
 else if b.mode=5 then b.GI t
 else if b.mode=6 then b.Fk t
 else if b.mode=7 then b.MU t
 else if b.mode=8 then b.MT t
 else if b.mode=18 then b.Fu t
 else(b,false)
end BS
end Go.Am
end
section
end
section
namespace Go.Am
open Go
structure Gz(b:BS)(n o a:Nat):Prop where
 ok:E6 b
 rm:Cd b n
 AL:b.AL.length<=o
 AY:b.AY.length<=a
structure DU.Sm(t:DU):Prop where
 name:t.name.length<=1000
 Av:EM t.Av
 data:t.data.length<=1000
 r: -2147483648<=t.r/\t.r<=2147483647
structure eF(b:BS):Prop where
 has:b.a.has b.head
 kind:(b.a.nd b.head).kind=4
 A9:(b.a.nd b.head).A9=1
 name:(b.a.nd b.head).name=aTx
 no:b.head∉b.AL.map Item.node
section
variable{b b':BS}{n n' o o' a a':Nat}{nm:Ak}{l:List A7}{t:DU}{sp:Int}
def Gz.le(g:Gz b n o a)(h1:n'<=n)(h2:o<=o')(c:a<=a'):Gz b n' o' a':=⟨g.ok,g.rm.le h1,Bp g.AL h2,Bp g.AY c⟩
def Gz.ite{c:Prop}[Decidable c]{x y:BS×Bool}(h1:Gz x.1 n o a)(h2:Gz y.1 n o a):Gz (if c then x else y).1 n o a:=by split;exact h1;exact h2
def Gz.aDf{d c:Prop}[Decidable d][Decidable c]{x y:BS×Bool}(h1:Gz x.1 n o a)(h2:Gz y.1 n o a):Gz (if d then x else if c then x else y).1 n o a:= .ite h1 (.ite h1 h2)
def Gz.aHi{e d c:Prop}[Decidable e][Decidable d][Decidable c]{x y:BS×Bool}(h1:Gz x.1 n o a)(h2:Gz y.1 n o a):Gz (if e then x else if d then x else if c then x else y).1 n o a:= .ite h1 (.aDf h1 h2)
def Gz.uo{f e d c:Prop}[Decidable f][Decidable e][Decidable d][Decidable c]{x y:BS×Bool}(h1:Gz x.1 n o a)(h2:Gz y.1 n o a):Gz (if f then x else if e then x else if d then x else if c then x else y).1 n o a:= .ite h1 (.aHi h1 h2)
def Gz.dn(g:Gz b n o a)(h:n'<=n):Gz b n' o a:=g.le h (Ab _) (Ab _)
def Gz.MG(g:Gz b (n+4) o a)(hl:EM l)(hn:nm.length<=1000):Gz (b.E5 nm l sp) n (o+1) a:=by
 refine⟨Rb g.ok,JR g.rm hl hn,?_,by rw[E7];exact g.AY⟩;have:=g.AL;unfold BS.E5;split
 .rename_i hs;have e:(b.Fz nm l sp (b.place 0).1).AL=b.AL:=by unfold BS.Fz;rw[Af hs]
  simp only[e,Ap,Bc];omega
 .omega
def Gz.eq{c:BS}(g:Gz b n o a)(h1:c.a=b.a)(h2:c.Cy=b.Cy)(e:c.AL=b.AL)(d:c.AY=b.AY)(f:c.tm=b.tm):Gz c n o a:=
 ⟨g.ok.of_eq h1 h2 e d,g.rm.eq h1 e d f,by rw[e];exact g.AL,by rw[d];exact g.AY⟩
def Gz.sub(g:Gz b n o a){lo:List Item}{lc:List Cp}{lt:List Int}(h1:lo.Sublist b.AL)(h2:lc.Sublist b.AY)(c:lt.length<=b.tm.length):Gz {b with AL:=lo,AY:=lc,tm:=lt} n o a:=
 ⟨((g.ok.II h1).jD (by exact h2)).of_eq rfl rfl rfl rfl,g.rm.sub rfl h1 h2 c,Bp h1.length_le g.AL,Bp h2.length_le g.AY⟩
def Gz.II(g:Gz b n o a){lo:List Item}(h1:lo.Sublist b.AL):Gz {b with AL:=lo} n o a:=g.sub h1 (AD _) (Ab _)
def Gz.Hm(g:Gz b (n+5) o a)(hl:EM l)(hn:nm.length<=1000):Gz (b.Hm nm l) n (o+1) (a+1):=by
 have g1:=(g.le (n':=n+1+4) Ac (Ab _) (Ab _)).MG (sp:=1) hl hn;refine⟨ZC g.ok,Uw g.rm hl hn,g1.AL,?_⟩;unfold BS.Hm;simp only
 obtain⟨l',h1,h2⟩:=Si (l:=(b.E5 nm l 1).AY) (e:=⟨b.a.len+1,nm,l⟩);rw[h2,Ap,Bc];have:=h1.length_le;have:=g1.AY;omega
def Gz.Bg(g:Gz b (n+4*a) o a):Gz b.Bg n (o+a) a:=by have h1:=g.AY;have h2:=g.AL;have h:=SB (m:=n) (g.rm.le Ac);exact⟨Xm g.ok,h.1,Ac,Ac⟩
def Gz.DN(g:Gz b (n+8*(4*(o+8)+10)) o a):Gz (b.DN nm) n (o+8) (a+8):=by
 refine⟨ZF g.ok,?_,?_,?_⟩<;>unfold BS.DN<;>split
 .unfold BS.IQ;split;.exact g.rm.le Ac
  .exact(g.rm.II (Ch _ _)).le Ac
 .exact(MB g.AL g.rm).1
 .have:=g.AL;unfold BS.IQ;split;.omega
  .simp only[AB];omega
 .exact(MB g.AL g.rm).2
 .have:=g.AY;unfold BS.IQ;split<;>(try simp only)<;>omega
 .have:=g.AY;have:=Rk (n:=8) (b:=b) (nm:=nm);omega
def Gz.OM(g:Gz b (n+5) o a){r:Int}:Gz (b.OM r) n o a:=⟨sZ g.ok,Uy g.rm (XF _),g.AL,g.AY⟩
def Gz.DM(g:Gz b (n+5) o a){s:Ak}(hs:s.length<=1000){p:Int}:Gz (b.DM s p) n o a:=by
 refine⟨Xk g.ok,?_,g.AL,g.AY⟩;unfold BS.DM;split;.exact JU g.rm Ac
 .exact JU g.rm Ac
def Gz.GM(g:Gz b (n+1000) o a)(hl:EM l){h:Int}:Gz (b.GM l h) n o a:=by
 refine⟨jG g.ok,XM g.rm hl.1,?_,?_⟩<;>unfold BS.GM<;>split;.exact g.AL
 .exact g.AL
 .exact g.AY
 .exact g.AY
def Gz.IQ(g:Gz b n o a):Gz b.IQ n o a:=by
 unfold BS.IQ;split;.exact g
 .exact g.II (Ch _ _)
def Gz.EI(g:Gz b n o a){x:Ak}:Gz (b.EI nm x) n o a:=g.II (Ct.trans Ct)
def Gz.CD(g:Gz b n o a):Gz b.CD n o a:=by
 unfold BS.CD;split;.exact g.II (Ct.trans Ct)
 .exact g
def Gz.Dw(g:Gz b n o a):Gz (b.Dw nm) n o a:=by
 unfold BS.Dw;split
 .split;.exact g.II (Hk.trans Ct)
  .exact g
 .exact g
def Gz.IY(g:Gz b n o a):Gz b.IY n o a:=g.eq rfl rfl rfl rfl rfl
def Gz.mark(g:Gz b (n+1) o a):Gz {b with AY:=b.AY++[Cp.zero]} n o (a+1):=by
 refine⟨yB g.ok,g.rm.tF (e:=Cp.zero) Ax (λe he=>?_) ⟨AI,AI,λa ha=>by cases ha⟩,g.AL,?_⟩
 .rcases Aq.1 he with he|he
  .exact .inl he
  .exact .inr (by simpa using he)
 .have:=g.AY;simp only[Ap,Bc];omega
def Gz.tm(g:Gz b (n+1) o a){m:Int}:Gz {b with tm:=b.tm++[m]} n o a:=by have r:=g.rm;have c:=r.le (m':=n) Ac;exact⟨g.ok.of_eq rfl rfl rfl rfl,⟨c.n,c.at_,c.data,c.AL,c.AY,by have:=r.tm;simp only[Ap,Bc];omega,c.C5,c.ZG⟩,g.AL,g.AY⟩
def Gz.De(g:Gz b n o a):Gz b.De n o a:=by
 unfold BS.De;split;.exact g
 .exact(g.sub (lo:=DV Db (Bf [Bb]) (DV DQ Db b.AL)) (lc:=FD b.AY) (lt:=b.tm.dropLast) (Ct.trans Ct) (Ch _ _) Ax).IY
def Gz.Eu(g:Gz b (n+4) o a){s:Int}(hl:EM l)(hn:nm.length<=1000):Gz (b.Eu nm l s) n (o+1) a:=(g.MG (sp:=1) hl hn).eq rfl rfl rfl rfl rfl
def Gz.Df(g:Gz b (n+4) o a)(ht:t.Sm):Gz (b.Df t) n (o+1) a:=g.MG ht.Av ht.name
def Iz(h:nm.length<=1000):(Mm nm).Sm:=⟨h,⟨show([]:List A7).length<=1000 by decide,λa ha=>by cases ha⟩,(AI:([]:Ak).length<=1000),show(-2147483648:Int)<=0/\(0:Int)<=2147483647 by decide⟩
def Gz.Ns(g:Gz b (n+4) o a)(ht:t.Sm):Gz (b.Ns t) n (o+1) a:=(g.Df ht).IQ
def Gz.Jv(g:Gz b (n+1000) o a)(ht:t.Sm):Gz (b.Jv t) n o a:=by
 unfold BS.Jv;split;.exact g.le Ac (Ab _) (Ab _)
 .exact g.GM ht.Av
def Gz.DH(g:Gz b (n+1004) o a)(ht:t.Sm):Gz (b.DH t).1 n (o+1) (a+1):=by have g0:Gz b n (o+1) (a+1):=g.le Ac Ac Ac;have d:Gz b (n+4) o a:=g.le Ac Ac Ac;unfold BS.DH;refine .uo g0 (.ite ((g.le (n':=n+5) Ac (Ab _) (Ab _)).OM.le (Ab _) Ac Ac) (.ite (((g.le (n':=n+5) Ac (Ab _) (Ab _)).DM ht.data).le (Ab _) Ac Ac) (.ite (((g.le (n':=n+1000) Ac (Ab _) (Ab _)).Jv ht).le (Ab _) Ac Ac) (.ite ((d.Ns ht).le (Ab _) Ac Ac) (.ite ((d.Eu ht.Av ht.name).le (Ab _) Ac Ac) (.ite ((d.Eu ht.Av ht.name).le (Ab _) Ac Ac) (.ite ((d.Eu ht.Av ht.name).le (Ab _) Ac Ac) (.ite (((d.Df ht).le (Ab _) Ac Ac).eq rfl rfl rfl rfl rfl) (.ite ((d.IQ.le Ac Ac Ac).eq rfl rfl rfl rfl rfl) (.ite ?_ (.ite (d.De.le Ac Ac Ac) ((d.IQ.le Ac Ac Ac).eq (c:={b.IQ with mode:=6}) rfl rfl rfl rfl rfl))))))))))));exact((((g.le (n':=n+2+4) Ac (Ab _) (Ab _)).Df ht).mark.tm (m:=18)).eq rfl rfl rfl rfl rfl)
def Gz.GI(g:Gz b (n+1004) o a)(ht:t.Sm):Gz (b.GI t).1 n (o+1) (a+1):=by have g0:Gz b n (o+1) (a+1):=g.le Ac Ac Ac;unfold BS.GI;exact .uo g0 (.ite (((g.le (n':=n+1000) Ac (Ab _) (Ab _)).Jv ht).le (Ab _) Ac Ac) (.ite (g0.IQ.eq rfl rfl rfl rfl rfl) (.aHi (g.DH ht) (g0.IQ.eq (c:={b.IQ with mode:=4}) rfl rfl rfl rfl rfl))))
def Gz.push(g:Gz b (n+1) o a)(c:eF b):Gz {b with AL:=b.AL++[BS.HB b.head]} n (o+1) a:=by have ZI:=g.ok.K_ (i:=BS.HB b.head) (k:=b.AL.length) ⟨c.has,c.kind,c.A9,c.name⟩ c.no;rw[BZ,GQ] at ZI;have d:=g.rm.tE (i:=BS.HB b.head) (l':=b.AL++[BS.HB b.head]) Ax (λj hj=>by simpa using hj) (AI:(aTx:Ak).length<=1000);exact⟨ZI,d,by have:=g.AL;simp only[Ap,Bc];omega,g.AY⟩
def Gz.HJ(g:Gz b (n+1005) o a)(c:eF b)(ht:t.Sm):Gz (b.HJ t).1 n (o+2) (a+1):=by have g2:=((Gz.push (n:=n+1004) g c).DH ht).II (lo:=Di b.head (BS.DH {b with AL:=b.AL++[BS.HB b.head]} t).1.AL) Gv;unfold BS.HJ;exact g2
def Gz.Fk(g:Gz b (n+1005) o a)(e:eF b)(ht:t.Sm):Gz (b.Fk t).1 n (o+2) (a+1):=by have g0:Gz b n (o+2) (a+1):=g.le Ac Ac Ac;have d:Gz b (n+4) o a:=g.le Ac Ac Ac;unfold BS.Fk;exact .uo g0 (.ite ((g.le (n':=n+5) Ac (Ab _) (Ab _)).OM.le (Ab _) Ac Ac) (.ite (((g.le (n':=n+5) Ac (Ab _) (Ab _)).DM ht.data).le (Ab _) Ac Ac) (.ite (((g.le (n':=n+1000) Ac (Ab _) (Ab _)).Jv ht).le (Ab _) Ac Ac) (.ite (((d.Df ht).le (Ab _) Ac Ac).eq rfl rfl rfl rfl rfl) (.ite (((d.Df ht).le (Ab _) Ac Ac).eq rfl rfl rfl rfl rfl) (.ite (g.HJ e ht) (.ite (((g.le (n':=n+1004) Ac (Ab _) (Ab _)).DH ht).le (Ab _) Ac Ac) (((d.Df (Iz (nm:=aTy) AI)).le (Ab _) Ac Ac).eq (c:={b.Df (Mm aTy) with mode:=7}) rfl rfl rfl rfl rfl))))))))
def Gz.MT(g:Gz b (n+5) o a):Gz (b.MT t).1 n o a:=by have g0:Gz b n o a:=g.le Ac Ac Ac;unfold BS.MT;exact .ite g0 (.ite g.OM (.ite (g0.IQ.eq (c:={b.IQ with mode:=b.Nn}) rfl rfl rfl rfl rfl) (.ite (g0.IQ.eq (c:={b.IQ with mode:=b.Nn}) rfl rfl rfl rfl rfl) g0)))
def Gz.QK(g:Gz b (n+4*a+5) o a):Gz (b.QK t) n (o+a) a:=by
 have g1:Gz (b.Bg.OM t.r) n (o+a) a:=(g.le (n':=n+5+4*a) Ac (Ab _) (Ab _)).Bg.OM;unfold BS.QK;split;.exact g.le Ac Ac (Ab _)
 .split;.exact g1
  .exact g1.eq rfl rfl rfl rfl rfl
def Gz.TO(g:Gz b n o a):Gz b.TO.1 n o a:=by
 unfold BS.TO;split;.exact(g.sub (lo:=DV Db (Bf [Bb]) b.AL) (lc:=FD b.AY) (lt:=b.tm.dropLast) Ct (Ch _ _) Ax).IY
 .exact g.eq rfl rfl rfl rfl rfl
def Gz.GU(g:Gz b (n+1) o a){m:Int}:Gz (b.GU m).1 n o a:=by have g1:=(g.sub (lo:=b.AL) (lc:=b.AY) (lt:=b.tm.dropLast) (AD _) (AD _) Ax).tm (m:=m);exact g1.eq rfl rfl rfl rfl rfl
def Gz.Fu(g:Gz b (n+4*a+1005) o a)(ht:t.Sm):Gz (b.Fu t).1 n (o+a+1) (a+1):=by have g0:Gz b n (o+a+1) (a+1):=g.le Ac Ac Ac;have gf:∀m,Gz (b.GU m).1 n (o+a+1) (a+1):=λm=>(g.le (n':=n+1) Ac (Ab _) (Ab _)).GU.le (Ab _) Ac Ac;unfold BS.Fu;exact .ite g0 (.ite ((g.le (n':=n+4*a+5) Ac (Ab _) (Ab _)).QK.le (Ab _) Ac Ac) (.ite (((g.le (n':=n+5) Ac (Ab _) (Ab _)).DM ht.data).le (Ab _) Ac Ac) (.ite g0 (.aDf (((g.le (n':=n+1004) Ac (Ab _) (Ab _)).DH ht).le (Ab _) Ac Ac) (.ite (gf 9) (.ite (gf 12) (.ite (gf 13) (.ite (gf 14) (.ite (gf 7) (.ite g0 g0.TO))))))))))
def Gz.block(g:Gz b (n+4) o a)(ht:t.Sm):Gz (b.block t) n (o+1) a:=g.CD.Df ht
def Gz.Og(g:Gz b (n+4) o a)(ht:t.Sm):Gz (b.Og t) n (o+1) a:=by
 unfold BS.Og;refine Gz.Df ?_ ht;split;.exact g.CD.IQ
 .exact g.CD
def Gz.Ti(g:Gz b (n+4) o a)(ht:t.Sm):Gz (b.Ti t) n (o+1) a:=(g.block ht).eq rfl rfl rfl rfl rfl
def Gz.XT(g:Gz b (n+4) o a)(ht:t.Sm):Gz (b.XT t) n (o+1) a:=by
 unfold BS.XT;split;.exact g.le Ac Ac (Ab _)
 .simp only;split;.exact g.CD.Df ht
  .exact(g.CD.Df ht).eq rfl rfl rfl rfl rfl
def Gz.I0(g:Gz b n o a){ws:List Ak}:Gz (b.I0 ws) n o a:=by
 unfold BS.I0;split
 .split;.exact g.EI
  .exact g
 .exact g
def Gz.pV(g:Gz b (n+4) o a)(ht:t.Sm):Gz (b.pV t) n (o+1) a:=(g.eq (c:={b with fs:=false}) rfl rfl rfl rfl rfl).I0.block ht
def Gz.TP(g:Gz b (n+4*a+4) o a)(ht:t.Sm):Gz (b.TP t) n (o+a+1) a:=by
 have g1:Gz (if b.has [aTw] then b.EI aTw [] else b) (n+4+4*a) o a:=by
  split;.exact g.EI.le Ac (Ab _) (Ab _)
  .exact g.le Ac (Ab _) (Ab _)
 exact(g1.Bg.Df ht).eq rfl rfl rfl rfl rfl
def Gz.fmt(g:Gz b (n+4*a+5) o a)(ht:t.Sm):Gz (b.fmt t) n (o+a+1) (a+1):=((g.le (n':=n+5+4*a) Ac (Ab _) (Ab _)).Bg.Hm ht.Av ht.name)
def PJ{l:List Cp}{x:Int}:(BS.JW l x).Sublist l:=by
 unfold BS.JW;split;.exact AD _
 .exact C0
def Gz.ZR(g:Gz b (n+8*(4*(o+8)+10)) o a):Gz b.ZR n (o+8) (a+8):=by
 unfold BS.ZR;simp only;split;.exact g.le Ac Ac Ac
 .exact g.DN.sub Gv PJ (Ab _)
def Gz.eo(g:Gz b (n+8*(4*(o+8)+10)+4*(a+8)+5) o a)(ht:t.Sm):Gz (b.eo t) n (o+a+17) (a+9):=
 (Gz.fmt ((g.le (n':=n+4*(a+8)+5+8*(4*(o+8)+10)) Ac (Ab _) (Ab _)).ZR) ht).le (Ab _) Ac (Ab _)
def Gz.et(g:Gz b (n+8*(4*(o+a+8)+10)+8*a+100) o a)(ht:t.Sm):Gz (b.et t) n (o+2*a+17) (a+9):=by
 have g1:Gz b.Bg (n+5+4*(a+8)+8*(4*(o+a+8)+10)) (o+a) a:=(g.le Ac (Ab _) (Ab _)).Bg;have g2:Gz (if b.Bg.has [aTT] then(b.Bg.DN aTT).Bg else b.Bg) (n+5) (o+a+8+(a+8)) (a+8):=by
  split;.exact g1.DN.Bg
  .exact g1.le Ac Ac Ac
 exact(g2.Hm ht.Av ht.name).le (Ab _) Ac (Ab _)
def Gz.B0(g:Gz b (n+4*a+5) o a)(ht:t.Sm):Gz (b.B0 t) n (o+a+1) (a+1):=
 (((g.le (n':=n+1+4+4*a) Ac (Ab _) (Ab _)).Bg.Df ht).mark).eq rfl rfl rfl rfl rfl
def Gz.Rl(g:Gz b (n+4) o a)(ht:t.Sm):Gz (b.Rl t) n (o+1) a:=by
 have g1:Gz (if(b.a.nd b.Cy).CS then b else b.CD) (n+4) o a:=by
  split;.exact g
  .exact g.CD
 exact(g1.Df ht).eq rfl rfl rfl rfl rfl
def DU.Sm.rn(ht:t.Sm)(h:nm.length<=1000):({t with name:=nm}:DU).Sm:=⟨h,ht.Av,ht.data,ht.r⟩
def Gz.empty(g:Gz b (n+4*a+4) o a)(ht:t.Sm):Gz (b.empty t) n (o+a+1) a:=by
 have d:Gz b (n+4) o a:=g.le Ac (Ab _) (Ab _);have c:Gz b.Bg (n+4) (o+a) a:=(g.le Ac (Ab _) (Ab _)).Bg;unfold BS.empty;split;.exact((d.CD.Ns ht).le (Ab _) Ac (Ab _)).eq rfl rfl rfl rfl rfl
 .split;.exact((d.Ns ht).le (Ab _) Ac (Ab _)).eq rfl rfl rfl rfl rfl
  .split;.exact(c.Ns ht).eq rfl rfl rfl rfl rfl
   .exact(c.Ns (ht.rn (by split;exact AI;exact ht.name))).eq rfl rfl rfl rfl rfl
def Gz.raw(g:Gz b (n+4*a+4) o a)(ht:t.Sm):Gz (b.raw t) n (o+a+1) a:=by
 have d:Gz b (n+4) o a:=g.le Ac (Ab _) (Ab _);have e:Gz b.CD.Bg (n+4) (o+a) a:=(g.CD.le Ac (Ab _) (Ab _)).Bg;unfold BS.raw;split;.exact((d.block ht).le (Ab _) Ac (Ab _)).eq rfl rfl rfl rfl rfl
 .split;.exact((d.Eu (s:=2) ht.Av ht.name).le (Ab _) Ac (Ab _)).eq rfl rfl rfl rfl rfl
  .split;.exact(e.eq (c:={b.CD.Bg with fs:=false}) rfl rfl rfl rfl rfl).Eu ht.Av ht.name
   .split;.exact((d.eq (c:={b with fs:=false}) rfl rfl rfl rfl rfl).Eu ht.Av ht.name).le (Ab _) Ac (Ab _)
    .exact(d.Eu ht.Av ht.name).le (Ab _) Ac (Ab _)
def Gz.TQ(g:Gz b (n+4*a+4) o a)(ht:t.Sm):Gz (b.TQ t) n (o+a+1) a:=
 ((g.le (n':=n+4+4*a) Ac (Ab _) (Ab _)).Bg.Df ht).eq rfl rfl rfl rfl rfl
def Gz.TR(g:Gz b (n+4*a+4) o a)(ht:t.Sm):Gz (b.TR t) n (o+a+1) a:=by
 have g1:Gz (if Bf [aTO] (E4 b.AL) then b.IQ else b) (n+4+4*a) o a:=by
  split;.exact g.IQ.le Ac (Ab _) (Ab _)
  .exact g.le Ac (Ab _) (Ab _)
 exact g1.Bg.Df ht
def Gz.pW(g:Gz b (n+4) o a)(ht:t.Sm):Gz (b.pW t) n (o+1) a:=by
 unfold BS.pW;refine Gz.Df ?_ ht;split;.exact g.II Ct
 .exact g
def Gz.Oh(g:Gz b (n+4*a+4) o a)(ht:t.Sm):Gz (b.Oh t) n (o+a+1) a:=by
 have g1:=(g.le (n':=n+4+4*a) Ac (Ab _) (Ab _)).Bg.MG (sp:=if t.name=aUY then 3 else 2) ht.Av ht.name;unfold BS.Oh;simp only;split;.exact g1.IQ
 .exact g1
def UE(h:b.Ll=true):DK b.AL 1∈b.AL:=by unfold BS.Ll at h;simp only[AO,B4] at h;exact Kr AI (by have:=h.1;omega)
def kK{x:Int}:MQ b.a (b.a.cut x):=by
 unfold Ar.cut;simp only;split;.exact .refl
 .exact MQ.trans TB TC
def Gz.Kw(g:Gz b (n+4) o a)(ht:t.Sm):Gz (b.Kw t) n (o+1) a:=by
 unfold BS.Kw;split;.exact g.le Ac Ac (Ab _)
 .rename_i h;have h2:b.Ll=true:=by
   cases hs:b.Ll;.exact absurd (.inl hs) h
   .rfl
  have hi:=g.ok.op _ (UE h2);have g1:Gz {b with a:=b.a.cut (DK b.AL 1).node} (n+4) o a:=⟨g.ok.IH (bV g.ok.ok hi.1 (by rw[hi.2.1];decide)) oJ,g.rm.IH kK,g.AL,g.AY⟩;exact((g1.II (lo:=b.AL.take 1) (Ch _ _)).Df ht).eq rfl rfl rfl rfl rfl
def Gz.Of(g:Gz b (n+1000) o a)(ht:t.Sm):Gz (b.Of t) n o a:=by
 have g0:Gz b n o a:=g.le Ac (Ab _) (Ab _);unfold BS.Of;split;.exact g0
 .split;.exact g.GM ht.Av
  .split;.exact(g.eq (c:={b with fs:=false}) rfl rfl rfl rfl rfl).GM ht.Av
   .exact g0
def Gz.opens(g:Gz b (n+8*(4*(o+a+8)+10)+8*a+2000) o a)(ht:t.Sm):Gz (b.opens t).1 n (o+2*a+17) (a+9):=by
 have ge:∀{m},m<=n+8*(4*(o+a+8)+10)+8*a+2000->Gz b m o a:=λh=>g.le h (Ab _) (Ab _);unfold BS.opens;exact .ite (((ge Ac).DH ht).le (Ab _) Ac Ac)
  (.ite (((ge Ac).block ht).le (Ab _) Ac Ac)
  (.ite (((ge Ac).Og ht).le (Ab _) Ac Ac)
  (.ite (((ge Ac).Ti ht).le (Ab _) Ac Ac)
  (.ite (((ge Ac).fmt ht).le (Ab _) Ac Ac)
  (.ite (((ge Ac).B0 ht).le (Ab _) Ac Ac)
  (.ite (((ge Ac).empty ht).le (Ab _) Ac Ac)
  (.ite (ge (m:=n) Ac |>.le (Ab _) Ac Ac)
  (.ite (((ge Ac).raw ht).le (Ab _) Ac Ac)
  (.ite (((ge Ac).pW ht).le (Ab _) Ac Ac)
  (.ite (((ge Ac).Oh ht).le (Ab _) Ac Ac)
  (.ite (((ge Ac).pV ht).le (Ab _) Ac Ac)
  (.ite (((ge Ac).TR ht).le (Ab _) Ac Ac)
  (.ite (((ge Ac).Of ht).le (Ab _) Ac Ac)
  (.ite (((ge Ac).Kw ht).le (Ab _) Ac Ac)
  (.ite (((ge Ac).XT ht).le (Ab _) Ac Ac)
  (.ite (((ge Ac).TP ht).le (Ab _) Ac Ac)
  (.ite (((ge Ac).eo ht).le (Ab _) Ac Ac)
  (.ite (((ge Ac).et ht).le (Ab _) Ac Ac)
  (.ite (((ge Ac).Rl ht).le (Ab _) Ac Ac)
  (.ite (((ge Ac).TQ ht).le (Ab _) Ac Ac)
  (((ge (m:=n+4+4*a) Ac).Bg.Df ht).le (Ab _) Ac Ac)))))))))))))))))))))
def Gz.JX(g:Gz b n o a):Gz (b.JX t) n o a:=by
 unfold BS.JX;split;.exact g.EI
 .exact g
def Gz.Oj(g:Gz b (n+4) o a):Gz (b.Oj t) n (o+1) a:=by
 have g0:Gz b n (o+1) a:=g.le Ac Ac (Ab _);unfold BS.Oj;dsimp only;generalize b.OG _ _=q;cases q
 .by_cases h:t.name=[112];.simp only[Co,DO,Af h];exact(g.Df (Iz (nm:=[112]) (AI:([112]:Ak).length<=1000))).EI
  .simp only[Co,DO,Ag h];exact g0
 .exact g0.EI
def Gz.PI(g:Gz b (n+8*(4*(o+a+8)+10)+8*a+2000) o a)(ht:t.Sm):Gz (b.PI t).1 n (o+2*a+17) (a+9):=by
 have ge:∀{m},m<=n+8*(4*(o+a+8)+10)+8*a+2000->Gz b m o a:=λh=>g.le h (Ab _) (Ab _);have g0:Gz b n (o+2*a+17) (a+9):=g.le Ac Ac Ac;unfold BS.PI;refine .ite (((ge Ac).DH ht).le (Ab _) Ac Ac)
  (.ite ?_ (.ite g0.JX (.ite (((ge (m:=n+8*(4*(o+8)+10)) Ac).DN).le (Ab _) Ac Ac)
  (.ite ?_ (.ite ?_ (.ite (((ge (m:=n+4) Ac).Oj).le (Ab _) Ac Ac) (.ite ?_
  (.ite (((ge (m:=n+4*a+4) Ac).empty (Iz (nm:=[98,114]) AI)).le (Ab _) Ac Ac) g0.Dw))))))))
 .unfold BS.SF;split;.exact g0.eq rfl rfl rfl rfl rfl
  .exact g0
 .unfold BS.Oi;split;.exact g0.II (Ct.trans Ct)
  .exact g0
 .unfold BS.Qg;split;.exact(g0.sub (lo:=(b.EI t.name []).AL) (lc:=FD b.AY) (lt:=b.tm) (Ct.trans Ct) (Ch _ _) (Ab _)).eq rfl rfl rfl rfl rfl
  .exact g0
 .unfold BS.VC;split;.exact g0.JX
  .split;.exact(g0.II (lo:=Di b.HQ (DV (EB []) Db b.AL)) (Gv.trans Ct)).eq rfl rfl rfl rfl rfl
   .exact g0.eq rfl rfl rfl rfl rfl
def Gz.MU(g:Gz b (n+8*(4*(o+a+8)+10)+8*a+2000) o a)(ht:t.Sm):Gz (b.MU t).1 n (o+2*a+17) (a+9):=by
 have ge:∀{m},m<=n+8*(4*(o+a+8)+10)+8*a+2000->Gz b m o a:=λh=>g.le h (Ab _) (Ab _);have g0:Gz b n (o+2*a+17) (a+9):=g.le Ac Ac Ac;unfold BS.MU;exact .ite g0 (.ite (((ge (m:=n+4*a+5) Ac).QK).le (Ab _) Ac Ac)
  (.ite (((ge (m:=n+5) Ac).DM ht.data).le (Ab _) Ac Ac)
  (.ite (.ite (((ge (m:=n+4*a+1005) Ac).Fu ht).le (Ab _) Ac Ac) (g0.eq rfl rfl rfl rfl rfl))
  (.ite (g.opens ht) (.ite (g.PI ht) g0)))))
def Gz.eE(g:Gz b n o a):Gz b.eE n o a:=by have hd:=g.ok.Cy;have hk:=g.ok.ok.Tu _ hd.1;refine⟨g.ok.IH (oD g.ok.ok hd.1 ⟨hk.k,hk.Bw,hk.elem,hk.nm,hk.dt,hk.data,λh=>absurd hd.2 h,hk.sp,hk.xi,hk.C7,hk.Uu,hk.OC,hk.root,hk.bz⟩ rfl rfl rfl ⟨(g.ok.ok.Cy _ hd.1).1,(g.ok.ok.Cy _ hd.1).2,g.ok.ok.Yz _ hd.1⟩ rfl rfl λc=>c) (Xj rfl rfl rfl),g.rm.IH (Xn rfl rfl),g.AL,g.AY⟩
def Gz.UD(g:Gz b (n+1) o a):Gz (b.UD t) n o a:=by
 have hd:=g.ok.Cy;have hx:sQ {kind:=3,Cy:=b.Cy,name:=t.name,JN:=t.JN,sys:=t.sys}:=by constructor<;>simp[C7,Gu,fE]
 have ZI:=Q9 g.ok.ok hx (.inr ⟨Ax,hd⟩) rfl rfl rfl rfl (λh=>absurd h.1 (AI:¬(3:Int)=4));refine⟨g.ok.IH (P7 ZI) (Xi.trans P9),?_,g.AL,g.AY⟩;exact(g.rm.FQ (KW (y:={kind:=3,Cy:=b.Cy,name:=t.name,JN:=t.JN,sys:=t.sys}) Ax Ax)).IH Ks
def Gz.KN{d:DU->Bool}(g:Gz b (n+5) o a)(ht:t.Sm):Gz (b.KN d t).1 n o a:=by
 have g0:Gz b n o a:=g.le Ac (Ab _) (Ab _);unfold BS.KN;refine .aDf g0 (.ite (g.DM ht.data) (.ite (g0.eE.eq (c:={b.eE with mode:=2}) rfl rfl rfl rfl rfl) ?_));have g1:Gz (b.UD t) n o a:=(g.le (n':=n+1) Ac (Ab _) (Ab _)).UD;simp only;split;.exact g1.eE.eq rfl rfl rfl rfl rfl
 .exact g1.eq rfl rfl rfl rfl rfl
def Gz.GG(g:Gz b (n+5) o a)(ht:t.Sm):Gz (b.GG t).1 n (o+1) a:=by have d:Gz b (n+4) o a:=g.le Ac (Ab _) (Ab _);unfold BS.GG;exact .uo (d.le Ac Ac (Ab _)) (.ite ((g.DM ht.data).le (Ab _) Ac (Ab _)) (.ite ((d.Df ht).eq rfl rfl rfl rfl rfl) ((d.Df (Iz (nm:=aTu) AI)).eq (c:={b.Df (Mm aTu) with mode:=3}) rfl rfl rfl rfl rfl)))
def Gz.GH(g:Gz b (n+1000) o a)(ht:t.Sm):Gz (b.GH t).1 n (o+1) a:=by have d:Gz b (n+4) o a:=g.le Ac (Ab _) (Ab _);have e:Gz b (n+5) o a:=g.le Ac (Ab _) (Ab _);unfold BS.GH;exact .uo (d.le Ac Ac (Ab _)) (.ite ((e.DM ht.data).le (Ab _) Ac (Ab _)) (.ite ((g.Jv ht).le (Ab _) Ac (Ab _)) (.ite ((d.Df ht).eq rfl rfl rfl rfl rfl) ((d.Df (Iz (nm:=aTx) AI)).eq (c:={b.Df (Mm aTx) with head:=b.No 1,mode:=4}) rfl rfl rfl rfl rfl))))
def Gz.apply{c:DU->Bool}(g:Gz b (n+8*(4*(o+a+8)+10)+8*a+2000) o a)(d:b.mode=6->eF b)(ht:t.Sm):Gz (b.apply c t).1 n (o+2*a+17) (a+9):=by
 have ge:∀{m},m<=n+8*(4*(o+a+8)+10)+8*a+2000->Gz b m o a:=λh=>g.le h (Ab _) (Ab _);have g0:Gz b n (o+2*a+17) (a+9):=g.le Ac Ac Ac;unfold BS.apply;refine .ite g0 (.ite (((ge (m:=n+5) Ac).KN ht).le (Ab _) Ac Ac)
  (.ite (((ge (m:=n+5) Ac).GG ht).le (Ab _) Ac Ac)
  (.ite (((ge (m:=n+1000) Ac).GH ht).le (Ab _) Ac Ac)
  (.ite (((ge (m:=n+1004) Ac).DH ht).le (Ab _) Ac Ac)
  (.ite (((ge (m:=n+1004) Ac).GI ht).le (Ab _) Ac Ac) ?_)))))
 split;.rename_i e;exact(((ge (m:=n+1005) Ac).Fk (d e) ht).le (Ab _) Ac Ac)
 .exact .ite (g.MU ht)
   (.ite (((ge (m:=n+5) Ac).MT).le (Ab _) Ac Ac)
   (.ite (((ge (m:=n+4*a+1005) Ac).Fu ht).le (Ab _) Ac Ac) g0))
end
def Fe(h:Ah)(F:Nat->Prop)(f:FuncId)(args:List Aa)(r:Aa)(bi:Nat)(b':BS):Prop:=∃h' F',Ca cx f args h r h'/\PB h' bi b' F'/\Ew h F h' F'
abbrev B2(t:DU)(av:Aa):List Aa:=[I t.k,.str t.name,.bool t.hn,.str t.JN,.bool t.hp,.str t.sys,.bool t.hs,.bool t.q,av,.bool t.sc,.str t.data,.int .i32 t.r]
section
variable{h h':Ah}{bi:Nat}{b b':BS}{F:Nat->Prop}{n o a:Nat}{t:DU}{av:Aa}
def L6:XB t.name av (B2 t av):=⟨_,_,_,_,_,_,_,_,_,_,rfl⟩
def ET(w:PB h bi b F)(g:Gz b (n+4) o a)(ht:t.Sm)(hv:A8 t.Av av):Fe h F 39 [Pt bi 0,.agg (B2 t av)] (I (b.No 1)) bi (b.Df t):=by obtain⟨d,f,c,tt,G,w,hc,rfl⟩:=w;obtain⟨h',o',e,r,w',x⟩:=dh (m:=n) w g.ok g.rm L6 hv ht.Av ht.name;exact⟨h',_,r,⟨d,o',c,tt,e,w',by unfold BS.Df;rw[E7];exact hc,rfl⟩,x⟩
def eH(w:PB h bi b F)(g:Gz b (n+4) o a)(ht:t.Sm)(hv:A8 t.Av av)(sp:Int):Fe h F 41 [Pt bi 0,.agg (B2 t av),I sp] (I (b.No sp)) bi (b.E5 t.name t.Av sp):=by obtain⟨d,f,c,tt,G,w,hc,rfl⟩:=w;obtain⟨h',o',e,r,w',x⟩:=aCQ (m:=n) w g.ok g.rm L6 hv ht.Av ht.name sp;exact⟨h',_,r,⟨d,o',c,tt,e,w',by rw[E7];exact hc,rfl⟩,x⟩
def uq(w:PB h bi b F)(g:Gz b (n+5) o a)(ht:t.Sm)(hv:A8 t.Av av):Fe h F 42 [Pt bi 0,.agg (B2 t av)] (I (b.a.len+1)) bi (b.Hm t.name t.Av):=by obtain⟨d,f,c,tt,G,w,hc,rfl⟩:=w;obtain⟨h',o',c',e,r,w',Ow,x⟩:=aGx (m:=n) w hc g.ok g.rm L6 hv ht.Av ht.name;exact⟨h',_,r,⟨d,o',c',tt,e,w',Ow,rfl⟩,x⟩
def XU(w:PB h bi b F)(g:Gz b (n+5) o a){r:Int}(hr: -2147483648<=r/\r<=2147483647):Fe h F 43 [Pt bi 0,.int .i32 r] (.tuple []) bi (b.OM r):=by obtain⟨e,d,c,tt,G,w,hc,rfl⟩:=w;obtain⟨h',f,r,w',x⟩:=aGD (m:=n) w g.ok g.rm r hr;exact⟨h',_,r,⟨e,d,c,tt,f,w',hc,rfl⟩,x⟩
def LG(w:PB h bi b F)(g:Gz b (n+1) o a){s:Ak}(hs:s.length<=100000)(x:Int):Fe h F 44 [Pt bi 0,.str s,I x] (.tuple []) bi (b.DM s x):=by obtain⟨e,d,c,tt,G,w,hc,rfl⟩:=w;obtain⟨h',f,r,w',x⟩:=aGE (m:=n) w g.ok g.rm s hs x;exact⟨h',_,r,⟨e,d,c,tt,f,w',hc,rfl⟩,x⟩
def XV(w:PB h bi b F)(g:Gz b (n+4) o a)(ht:t.Sm)(hv:A8 t.Av av)(s:Int):Fe h F 45 [Pt bi 0,.agg (B2 t av),I s] (.tuple []) bi (b.Eu t.name t.Av s):=by obtain⟨d,f,c,tt,G,w,hc,rfl⟩:=w;obtain⟨h',o',e,r,w',x⟩:=aCT (m:=n) w g.ok g.rm L6 hv ht.Av ht.name s;exact⟨h',_,r,⟨d,o',c,tt,e,w',by show Dj (b.E5 t.name t.Av 1).AY c;rw[E7];exact hc,rfl⟩,x⟩
def I1(w:PB h bi b F)(g:Gz b n o a):Fe h F 46 [Pt bi 0] (.tuple []) bi b.CD:=by obtain⟨d,f,c,tt,G,w,hc,rfl⟩:=w;obtain⟨h',o',r,w',x⟩:=aGF w g.rm;exact⟨h',_,r,⟨d,o',c,tt,G,w',by have e:b.CD.AY=b.AY:=(by unfold BS.CD;split<;>rfl);rw[e];exact hc,rfl⟩,x⟩
def CV(w:PB h bi b F)(g:Gz b (n+4*a) o a):Fe h F 47 [Pt bi 0] (.tuple []) bi b.Bg:=by obtain⟨d,f,c,tt,G,w,hc,rfl⟩:=w;obtain⟨h',o',c',e,r,w',Ow,x⟩:=aGU (m:=n) w hc g.ok (g.rm.le (by have:=g.AY;omega));exact⟨h',_,r,⟨d,o',c',tt,e,w',Ow,rfl⟩,x⟩
def ur(w:PB h bi b F)(g:Gz b n o a)(nm:Ak):Fe h F 48 [Pt bi 0,.str nm] (.tuple []) bi (b.Dw nm):=by obtain⟨d,f,c,tt,G,w,hc,rfl⟩:=w;obtain⟨h',o',r,w',x⟩:=aCU w g.rm nm;exact⟨h',_,r,⟨d,o',c,tt,G,w',by have e:(b.Dw nm).AY=b.AY:=(by unfold BS.Dw;split;split<;>rfl;rfl);rw[e];exact hc,rfl⟩,x⟩
def ø(w:PB h bi b F)(g:Gz b n o a):Fe h F 50 [Pt bi 0] (.tuple []) bi b.IY:=by obtain⟨e,d,c,tt,G,w,hc,rfl⟩:=w;obtain⟨h',r,w',x⟩:=tz w g.rm;exact⟨h',_,r,⟨e,d,c,tt,G,w',hc,rfl⟩,x⟩
def yI(w:PB h bi b F)(g:Gz b (n+1000) o a)(ht:t.Sm)(hv:A8 t.Av av)(x:Int):Fe h F 51 [Pt bi 0,.agg (B2 t av),I x] (.tuple []) bi (b.GM t.Av x):=by obtain⟨f,d,c,tt,G,w,hc,rfl⟩:=w;obtain⟨h',i,r,w',x⟩:=aGM (m:=n) w g.ok g.rm L6 hv ht.Av x;exact⟨h',_,r,⟨f,d,c,tt,i,w',by have e:∀y,(b.GM t.Av y).AY=b.AY:=(λy=>by unfold BS.GM;split<;>rfl);rw[e];exact hc,rfl⟩,x⟩
def aDg(w:PB h bi b F)(g:Gz b n o a):Fe h F 52 [Pt bi 0] (.tuple []) bi b.De:=by obtain⟨d,e,c,tt,G,w,hc,rfl⟩:=w;obtain⟨h',o',c',t',r,w',Ow,x⟩:=aGN w hc g.rm;exact⟨h',_,r,⟨d,o',c',t',G,w',Ow,rfl⟩,x⟩
def uv(w:PB h bi b F):Fe h F 53 [Pt bi 0] (.tuple []) bi {b with stop:=true}:=by obtain⟨e,d,c,tt,G,w,hc,rfl⟩:=w;obtain⟨h',r,w',x⟩:=aGR w;exact⟨h',_,r,⟨e,d,c,tt,G,w',hc,rfl⟩,x⟩
def XW(w:PB h bi b F)(g:Gz b (n+8*(4*(o+8)+10)) o a)(nm:Ak):Fe h F 49 [Pt bi 0,.str nm] (.tuple []) bi (b.DN nm):=by obtain⟨d,f,c,tt,G,w,hc,rfl⟩:=w;obtain⟨h',o',c',e,r,w',Ow,x⟩:=aG8 (m:=n) w hc g.ok (g.rm.le (by have:=g.AL;omega)) nm;exact⟨h',_,r,⟨d,o',c',tt,e,w',Ow,rfl⟩,x⟩
def OH(w:PB h bi b F)(g:Gz b n o a):Fe h F 56 [Pt bi 2] (.agg b.oI.row) bi b.IQ:=by obtain⟨d,f,c,tt,G,w,hc,rfl⟩:=w;obtain⟨h',o',r,w',x⟩:=ã w g.rm;exact⟨h',_,r,⟨d,o',c,tt,G,w',by have e:b.IQ.AY=b.AY:=(by unfold BS.IQ;split<;>rfl);rw[e];exact hc,rfl⟩,x⟩
def uw(w:PB h bi b F)(g:Gz b n o a):Fe h F 54 [Pt bi 3] (.tuple []) bi {b with AY:=b.AY++[Cp.zero]}:=by obtain⟨e,d,c,tt,G,w,hc,rfl⟩:=w;have Vq:=g.rm.AY;obtain⟨fs,Jn,Qv⟩:=hc;obtain⟨u,r2,hu⟩:=f63 (h:=h) (id:=bi) (o:=3) (l:=fs) ⟨c,w.lO,Qv⟩ (by rw[<-Jn,As] at Vq;omega);exact⟨_,_,r2,⟨e,d,u,tt,G,w.PD (u:=u) (l:=b.AY++[Cp.zero]),⟨_,by rw[BP,Jn];rfl,hu⟩,rfl⟩,BN⟩
def yJ(w:PB h bi b F)(g:Gz b n o a):∃r,Fe h F 57 [Pt bi 3] r bi {b with AY:=FD b.AY}:=by obtain⟨e,d,c,tt,G,w,hc,rfl⟩:=w;have Vq:=g.rm.AY;obtain⟨fs,Jn,Qv⟩:=hc;obtain⟨u,r2,hu⟩:=f65 (h:=h) (id:=bi) (o:=3) (l:=fs) ⟨c,w.lO,Qv⟩ (by rw[<-Jn,As] at Vq;omega);exact⟨_,_,_,r2,⟨e,d,u,tt,G,w.PD (u:=u) (l:=FD b.AY),⟨_,by rw[dN,Jn],hu⟩,rfl⟩,BN⟩
def eI(w:PB h bi b F)(g:Gz b n o a){v:Aa}{ws:List Ak}(hw:HN ws v)(hn:ws.length<=1000000000):∃r,Fe h F 58 [Pt bi 2,v] r bi {b with AL:=DV Db (Bf ws) b.AL}:=by obtain⟨d,e,c,tt,G,w,hc,rfl⟩:=w;have ho:=g.rm.AL;obtain⟨u,r2,hu⟩:=f66 w.sO Ac hw hn;exact⟨_,_,_,r2,⟨d,u,c,tt,G,w.Mk hu,hc,rfl⟩,BN⟩
def LH(w:PB h bi b F)(g:Gz b n o a)(s:Ak):∃r,Fe h F 112 [Pt bi 2,.str s] r bi {b with AL:=DV (EB s) Db b.AL}:=by obtain⟨d,e,c,tt,G,w,hc,rfl⟩:=w;have ho:=g.rm.AL;obtain⟨u,r2,hu⟩:=aCF w.sO Ac s;exact⟨_,_,_,r2,⟨d,u,c,tt,G,w.Mk hu,hc,rfl⟩,BN⟩
def kL(w:PB h bi b F)(g:Gz b n o a)(x:Int):∃r,Fe h F 151 [Pt bi 2,I x] r bi {b with AL:=Di x b.AL}:=by obtain⟨d,e,c,tt,G,w,hc,rfl⟩:=w;have ho:=g.rm.AL;obtain⟨u,r2,hu⟩:=sg w.sO Ac x;exact⟨_,_,_,r2,⟨d,u,c,tt,G,w.Mk hu,hc,rfl⟩,BN⟩
def aDh(w:PB h bi b F)(g:Gz b n o a)(i:Item):Fe h F 98 [Pt bi 2,.agg i.row] (.tuple []) bi {b with AL:=b.AL++[i]}:=by obtain⟨d,e,c,tt,G,w,hc,rfl⟩:=w;have ho:=g.rm.AL;obtain⟨u,r2,hu⟩:=f95 w.sO Ac i;exact⟨_,_,r2,⟨d,u,c,tt,G,w.Mk hu,hc,rfl⟩,BN⟩
def PB.sA(w:PB h bi b F):bk h (Pt bi 2) b.AL:=by obtain⟨e,d,c,tt,G,w,hc,rfl⟩:=w;exact w.sA
def PB.LN(w:PB h bi b F):∃x,Bi h none (Pt bi 0)=some (Pt x 0):=by obtain⟨d,e,c,tt,G,w,hc,rfl⟩:=w;exact⟨d,w.l0⟩
def PB.B9(w:PB h bi b F):Bi h none (Pt bi 1)=some (I b.Cy)/\Bi h none (Pt bi 4)=some (I b.mode)/\Bi h none (Pt bi 5)=some (I b.Nn)/\Bi h none (Pt bi 7)=some (I b.head)/\Bi h none (Pt bi 8)=some (I b.HQ)/\Bi h none (Pt bi 14)=some (.bool b.fs)/\Bi h none (Pt bi 18)=some (I b.sw)/\Bi h none (Pt bi 19)=some (.bool b.stop):=by obtain⟨e,d,c,tt,G,w,hc,rfl⟩:=w;exact⟨w.ld 1,w.ld 4,w.ld 5,w.ld 7,w.ld 8,w.ld 14,w.ld 18,w.ld 19⟩
def PB.ltm(w:PB h bi b F):∃v,Bi h none (Pt bi 6)=some v/\Sw b.tm v:=by obtain⟨e,d,c,tt,G,w,hc,rfl⟩:=w;exact⟨tt,w.l6,w.t⟩
def SG(w:PB h bi b F)(g:Gz b n o a)(s:Int){v:Aa}{ws:List Ak}(hv:HN ws v)(hw:ws.length<=1000000000):Ca cx 111 [Pt bi 2,I s,v] h (.bool (b.OG s (Bf ws))) h:=
 aFN w.sA (by have:=g.rm.AL;omega) s hv hw
def kM(w:PB h bi b F)(g:Gz b n o a)(s x:Int):Ca cx 211 [Pt bi 2,I s,I x] h (.bool (b.OG s (BU x))) h:=
 aFO w.sA (by have:=g.rm.AL;omega) s x
def aDi(w:PB h bi b F)(g:Gz b n o a)(s:Ak):Ca cx 127 [Pt bi 2,.str s] h (I (AX (Bf [s]) b.AL)) h:=
 f144 w.sA (by have:=g.rm.AL;omega) s
def ù(w:PB h bi b F)(i:Int):Ca cx 117 [Pt bi 2,I i] h (.agg (DK b.AL i).row) h:=U5 w.sA i
def XX(w:PB h bi b F):Ca cx 116 [Pt bi 2] h (I (b.AL.length:Int)) h:=TG w.sA
def kN(w:PB h bi b F)(g:Gz b n o a):Ca cx 120 [Pt bi 0] h (.agg (E4 b.AL).row) h:=by obtain⟨e,d,c,tt,G,w,hc,rfl⟩:=w;exact aCO w g.rm
def Wr(h:Ah)(F:Nat->Prop)(bi k:Nat)(v:Aa)(b':BS):Prop:=CH h 1 (Pt bi k) v=some (put h bi k v)/\PB (put h bi k v) bi b' F/\Ew h F (put h bi k v) F
def E9(w:PB h bi b F)(v:Int):Wr h F bi 4 (I v) {b with mode:=v}:=by obtain⟨e,d,c,tt,G,w,hc,rfl⟩:=w;exact⟨w.st (k:=4) rfl rfl,⟨e,d,c,tt,G,w.put rfl rfl w.o w.t,hc,rfl⟩,BN⟩
def ux(w:PB h bi b F)(v:Int):Wr h F bi 7 (I v) {b with head:=v}:=by obtain⟨e,d,c,tt,G,w,hc,rfl⟩:=w;exact⟨w.st (k:=7) rfl rfl,⟨e,d,c,tt,G,w.put rfl rfl w.o w.t,hc,rfl⟩,BN⟩
def eJ(w:PB h bi b F)(v:Int):Wr h F bi 8 (I v) {b with HQ:=v}:=by obtain⟨e,d,c,tt,G,w,hc,rfl⟩:=w;exact⟨w.st (k:=8) rfl rfl,⟨e,d,c,tt,G,w.put rfl rfl w.o w.t,hc,rfl⟩,BN⟩
def Kx(w:PB h bi b F)(v:Bool):Wr h F bi 14 (.bool v) {b with fs:=v}:=by obtain⟨e,d,c,tt,G,w,hc,rfl⟩:=w;exact⟨w.st (k:=14) rfl rfl,⟨e,d,c,tt,G,w.put rfl rfl w.o w.t,hc,rfl⟩,BN⟩
def uy(w:PB h bi b F)(v:Bool):Wr h F bi 17 (.bool v) {b with skip:=v}:=by obtain⟨e,d,c,tt,G,w,hc,rfl⟩:=w;exact⟨w.st (k:=17) rfl rfl,⟨e,d,c,tt,G,w.put rfl rfl w.o w.t,hc,rfl⟩,BN⟩
def aL8(w:PB h bi b F)(v:Int):Wr h F bi 18 (I v) {b with sw:=v}:=by obtain⟨e,d,c,tt,G,w,hc,rfl⟩:=w;exact⟨w.st (k:=18) rfl rfl,⟨e,d,c,tt,G,w.put rfl rfl w.o w.t,hc,rfl⟩,BN⟩
def aDj(w:PB h bi b F){v:Aa}{l:List Int}(hv:Sw l v):Wr h F bi 6 v {b with tm:=l}:=by obtain⟨e,d,c,tt,G,w,hc,rfl⟩:=w;exact⟨w.st (k:=6) (v0:=tt) rfl hv.1.cells,⟨e,d,c,v,G,w.ub hv,hc,rfl⟩,BN⟩
end
def Nt(c:UInt8):Bool:=decide ((9<=c.toNat/\c.toNat<=13)\/c.toNat=32)
def wf:Ak->Ak->List Ak
 |cur,[]=>if cur=[] then[] else[cur]
 |cur,c::r=>if Nt c then(if cur=[] then wf [] r else cur::wf [] r) else wf (cur++[c]) r
def eK:Bool->Ak->Nat
 |_,[]=>0
 |w,c::r=>(if w&& !Nt c then 1 else 0)+eK (Nt c) r
def yK(b:Bool):Int:=if b then 1 else 0
def TS:∀{s cur:Ak},(wf cur s).length=(if cur=[] then 0 else 1)+eK (decide (cur=[])) s
 |[],cur=>by unfold wf eK;split<;>simp_all
 |c::r,cur=>by
  unfold wf eK;by_cases hc:Nt c=true
  .by_cases h0:cur=[];.simp[hc,h0,TS (s:=r) (cur:=[])]
   .simp[hc,h0,TS (s:=r) (cur:=[])];omega
  .have Ow:Nt c=false:=by simpa using hc
   by_cases h0:cur=[];.simp[Ow,h0,TS (s:=r) (cur:=[c])]
   .simp[Ow,h0,TS (s:=r) (cur:=cur++[c])]
def yL:∀{s cur:Ak},(wf cur s).length<=s.length+1
 |[],cur=>by unfold wf;split<;>simp
 |c::r,cur=>by
  unfold wf;have h1:=yL (s:=r) (cur:=[]);have h2:=yL (s:=r) (cur:=cur++[c]);split;.split<;>simp only[AJ]<;>omega
  .simp only[AJ];omega
def yM{c:UInt8}(k:Option Nat)(hk:k=none){h:Ah}:∃v,Ay (.TY 256 1) [.BW GD,.int .u8 (c.toNat:Int)]=some v/\Bi h k v=some (.int .u8 (yK (Nt c))):=by
 subst hk;have key:∀n:Nat,n<256->GD[n]?=some (.int .u8 (yK (decide ((9<=n/\n<=13)\/n=32)))):=by intro n hn;have h1:∀n,n<256->Nb[n]?=some (yK (decide ((9<=n/\n<=13)\/n=32))):=D8;rw[GD,Cg,h1 n hn];rfl
 have hc:=c.toNat_lt;have hi:LK (c.toNat:Int) 256=some c.toNat:=by unfold LK;rw[Af Ac];rfl
 refine⟨.BW (GD.drop (c.toNat*1)),by simp[Ay,hi,VF],?_⟩;rw[WN,FJ,Cr,F7,Bl,key _ hc];rfl
def aDk{s c:Nat}(hs:s<128)(hc:c<128):∃n:Nat,n<128/\Ay (.int .or) [.int .u8 (s:Int),.int .u8 (c:Int)]=some (.int .u8 (n:Int)):=by
 have key:∀s:Nat,s<128->∀c:Nat,c<128->(match Ay (.int .or) [.int .u8 (s:Int),.int .u8 (c:Int)] with|some (.int .u8 n)=>decide (0<=n/\n<128)|_=>false)=true:=D8;have h1:=key s hs c hc;split at h1;.rename_i n hv;have:=HE h1;exact⟨n.toNat,Ac,by rw[hv,HY this.1]⟩
 .cases h1
def aDl(w i:Bool):∃v,Ay (.un .xor) [I (yK i)]=some v/\Ay (.int .and) [I (yK w),v]=some (I (if w&& !i then 1 else 0)):=by cases w<;>cases i<;>exact⟨_,rfl,rfl⟩
def aDm(i:Bool):IntKind.i64.wrap (yK i)=yK i:=by cases i<;>rfl
def yN{U:Type}(l:List U)(x y:U)(r:List U){k:Nat}(hk:k=l.length):(l++y::r).take k++[x]++(l++y::r).drop (k+1)=l++x::r:=by subst hk;simp
def aHj(s:Ak)(hs:s.length<=1000000)(ha:∀c∈s,c.toNat<128)(h:Ah):Ca cx 267 [.str s] h (.sl 1 ((wf [] s).map Cc)) (h++[.Ds]):=by
 have zm:AK=140737488355328:=rfl;have O:=yL (s:=s) (cur:=[]);obtain⟨N,hNe⟩:∃N,N=(wf [] s).length:=⟨_,rfl⟩;rw[Ae,xG,aCv];refine Ex (i:=0) (λz:Nat×Bool×Nat×Nat=>[I (z.1:Int),I (yK z.2.1),.int .u8 (z.2.2.1:Int),I (z.2.2.2:Int)]) (λz h1=>h1=h/\z.2.2.2<=s.length/\z.2.2.1<128/\z.1+eK z.2.1 (s.drop z.2.2.2)=eK true s) (λz=>s.length-z.2.2.2) (λz h1=>h1=h/\z.2.2.1<128/\z.1=N) (0,true,0,0) rfl ⟨rfl,Bd _,AI,Ax⟩ ?_ ?_
 .rintro⟨n,w,bits,i⟩ h1 ⟨rfl,hi,hb,hn⟩;simp only at hi hb hn;rcases Bk i s.length with hlt|Hh
  .obtain⟨bits',PV,y⟩:=aDk hb (ha _ (A5 hlt));obtain⟨v,J,H⟩:=yM (c:=s[i]) none rfl (h:=h1);obtain⟨v2,p,d⟩:=aDl w (Nt s[i]);have M:eK true s<=s.length+1:=by have:=TS (s:=s) (cur:=[]);simp at this;omega
   rw[Az hlt,eK] at hn;have u:=Vn (a:=(n:Int)) (b:=if w&& !Nt s[i] then 1 else 0) (by split<;>omega) (by split<;>omega);have t:((n:Int)+if(w&& !Nt s[i])=true then 1 else 0)=((n+if(w&& !Nt s[i])=true then 1 else 0:Nat):Int):=by split<;>simp
   simp only[abS,(Ac:(i:Int)<(s.length:Int)),Ie hlt,y,J,H,Vl,aDm,p,d,u,t,CR (Ac:i<9223372036854775807)];exact .next (_,Nt s[i],bits',i+1) rfl ⟨rfl,hlt,PV,Hb⟩ Hb
  .simp only[abS,(Ac:¬(i:Int)<(s.length:Int))];refine .ID (n,w,bits,i) rfl ⟨rfl,hb,?_⟩;rw[AT Hh,eK] at hn;have:=TS (s:=s) (cur:=[]);simp at this;simp only;omega
 rintro⟨n,w,bits,i⟩ h1 ⟨rfl,hb,hn⟩;simp only at hb hn;subst hn;have y:Rz h1 1 16 [S []] (I (n:Int)) (I (n:Int))=some (h1++[.cells (List.replicate n [S []]).flatten],.CW h1.length 0 n 1):=by simp only[Rz];rw[Af ⟨Ac,Ac,Ed,rfl⟩];simp
 have J:(List.replicate n [S []]).flatten=List.replicate n (S []):=by
  clear y hNe O;induction n with
  |zero=>rfl
  |succ n ih=>rw[KA,CB,ih];rfl
 rw[J] at y;have H:¬(128:Int)<=(bits:Int):=Ac;simp only[abS,H];refine lU y ?_;refine Ex (i:=2) (λi:Nat=>[I (i:Int)]) (λi h2=>h2=h1++[.cells (List.replicate n (S []))]/\i<=s.length/\wf [] s=wf [] (s.drop i)) (λi=>s.length-i) (λi h2=>h2=h1++[.cells (List.replicate n (S []))]/\i<=s.length/\wf [] s=wf [] (s.drop i)/\∀hi:i<s.length,Nt s[i]=false) 0 rfl ⟨rfl,Bd _,rfl⟩ ?_ ?_
 .rintro i h2 ⟨rfl,hi,hw⟩;rcases Bk i s.length with hlt|Hh
  .obtain⟨v,p,d⟩:=yM (c:=s[i]) none rfl (h:=h1++[.cells (List.replicate n (S []))]);cases hsp:Nt s[i] with
   |true=>rw[hsp] at d;simp only[abS,(Ac:(i:Int)<(s.length:Int)),Ie hlt,p,d,yK,↓reduceIte,(AI:(1:Int)≠0),CA,CR (Ac:i<9223372036854775807)];rw[Az hlt,wf,hsp] at hw;exact .next (i+1) rfl ⟨rfl,hlt,by simpa using hw⟩ Ac
   |false=>rw[hsp] at d;simp only[abS,(Ac:(i:Int)<(s.length:Int)),Ie hlt,p,d,yK,Co,↓reduceIte,CA];exact .ID i rfl ⟨rfl,hi,hw,λ_=>hsp⟩
  .simp only[abS,(Ac:¬(i:Int)<(s.length:Int))];exact .ID i rfl ⟨rfl,hi,hw,λh=>absurd h Ac⟩
 rintro i0 h2 ⟨rfl,ĺ,C,fw⟩;simp only[Ci];refine Ex (i:=4) (λz:List Ak×Nat×Nat=>[I (z.1.length:Int),I (z.2.1:Int),I (z.2.2:Int)]) (λz h2=>h2=h1++[.cells (z.1.map Aa.str++List.replicate (n-z.1.length) (S []))]/\z.2.1<=z.2.2/\z.2.2<=s.length/\z.1++wf ((s.take z.2.2).drop z.2.1) (s.drop z.2.2)=wf [] s/\(z.2.1=z.2.2->∀hi:z.2.2<s.length,Nt s[z.2.2]=false)) (λz=>s.length-z.2.2)
  (λz h2=>h2=h1++[.cells (z.1.map Aa.str++List.replicate (n-z.1.length) (S []))]/\z.2.1<=s.length/\z.1++wf (s.drop z.2.1) []=wf [] s) ([],i0,i0) rfl ⟨Ax,Ab _,ĺ,by simp[C,aIZ],λ_=>fw⟩ ?_ ?_
 .rintro⟨dn,f,i⟩ h2 ⟨rfl,hf,hi,hw,hz⟩;simp only at hf hi hw hz;have fy:dn.length<=n:=by rw[hNe,<-hw,Ap];omega
  rcases Bk i s.length with hlt|Hh
  .obtain⟨v,p,d⟩:=yM (c:=s[i]) none rfl (h:=h1++[.cells (dn.map Aa.str++List.replicate (n-dn.length) (S []))]);rw[Az hlt] at hw;cases hsp:Nt s[i] with
   |false=>
    rw[hsp] at d;simp only[abS,(Ac:(i:Int)<(s.length:Int)),Ie hlt,p,d,yK,Co,↓reduceIte,CR (Ac:i<9223372036854775807)];rw[wf,hsp] at hw;refine .next (dn,f,i+1) rfl ⟨rfl,Hb,hlt,?_,λe=>by simp only at e;omega⟩ Hb
    simp only
    rw[ng hf hlt];simpa using hw
   |true=>
    rw[hsp] at d;have aRU:f<i:=by
     rcases Bk f i with h|h
     .exact h
     .have:=hz Ac hlt;rw[hsp] at this;cases this
    have aL9:(s.take i).drop f≠[]:=by intro e;have:=B5 List.length e;simp at this;omega
    rw[wf,hsp] at hw;simp only[BD,aL9,DO] at hw;have m:dn.length<n:=by rw[hNe,<-hw];simp
    have u:Ay (.FH 1) [.CW h1.length 0 n 1,I (dn.length:Int)]=some (Pt h1.length dn.length):=by have:=Fi (id:=h1.length) (z:=1) (n:=n) (k:= .i64) m;rwa [F7] at this
    have hcl:(dn.map Aa.str++List.replicate (n-dn.length) (S [])).length=n:=Ed;have t:CH (h1++[.cells (dn.map Aa.str++List.replicate (n-dn.length) (S []))]) 1 (Pt h1.length dn.length) (.str ((s.take i).drop f))=some (h1++[.cells ((dn++[(s.take i).drop f]).map Aa.str++List.replicate (n-(dn++[(s.take i).drop f]).length) (S []))]):=by have F:(h1++[Ej.cells (dn.map Aa.str++List.replicate (n-dn.length) (S []))])[h1.length]?=some (.cells (dn.map Aa.str++List.replicate (n-dn.length) (S []))):=Ax;simp only[CH,F,P5,Bc];rw[Af ⟨trivial,by rw[hcl];omega⟩,BL _ _ (Ab _),DB];have E:n-dn.length=(n-(dn.length+1))+1:=Ac;have D:(dn.map Aa.str).length=dn.length:=As ..;simp only[eU,BP,A0,Dc,Ap,Bc];rw[E,KA,yN _ _ _ _ D.symm];simp
    simp only[abS,(Ac:(i:Int)<(s.length:Int)),Ie hlt,p,d,yK,↓reduceIte,(AI:¬(1:Int)=0),nO (z:=0) (k:= .i64) (l:= .i64) (Ac:f<=i) hi,u,t,CR (Ac:dn.length<9223372036854775807),CR (Ac:i<9223372036854775807)];refine Ex (i:=6) (λj:Nat=>[I (j:Int)]) (λj h2=>h2=h1++[.cells ((dn++[(s.take i).drop f]).map Aa.str++List.replicate (n-(dn++[(s.take i).drop f]).length) (S []))]/\i<j/\j<=s.length/\wf [] (s.drop (i+1))=wf [] (s.drop j)) (λj=>s.length-j) (λj h2=>h2=h1++[.cells ((dn++[(s.take i).drop f]).map Aa.str++List.replicate (n-(dn++[(s.take i).drop f]).length) (S []))]/\i<j/\j<=s.length/\wf [] (s.drop (i+1))=wf [] (s.drop j)/\∀hj:j<s.length,Nt s[j]=false) (i+1) rfl ⟨rfl,Ac,hlt,rfl⟩ ?_ ?_
    .rintro j h2 ⟨rfl,o,hj,mU⟩;rcases Bk j s.length with Y7|L
     .obtain⟨v,K,A⟩:=yM (c:=s[j]) none rfl (h:=h1++[.cells ((dn++[(s.take i).drop f]).map Aa.str++List.replicate (n-(dn++[(s.take i).drop f]).length) (S []))]);cases g:Nt s[j] with
      |true=>rw[g] at A;simp only[abS,(Ac:(j:Int)<(s.length:Int)),Ie Y7,K,A,yK,↓reduceIte,(AI:(1:Int)≠0),CA,CR (Ac:j<9223372036854775807)];rw[Az Y7,wf,g] at mU;exact .next (j+1) rfl ⟨rfl,Ac,Y7,by simpa using mU⟩ Ac
      |false=>rw[g] at A;simp only[abS,(Ac:(j:Int)<(s.length:Int)),Ie Y7,K,A,yK,Co,↓reduceIte,CA];exact .ID j rfl ⟨rfl,o,hj,mU,λ_=>g⟩
     .simp only[abS,(Ac:¬(j:Int)<(s.length:Int))];exact .ID j rfl ⟨rfl,o,hj,mU,λh=>absurd h Ac⟩
    .rintro j h2 ⟨rfl,o,hj,mU,B⟩;simp only[Ci,↓reduceIte];refine .next (dn++[(s.take i).drop f],j,j) Ax ⟨rfl,Ab _,hj,?_,λ_=>B⟩ Hb
     simp only[aIZ];rw[<-mU,AQ];exact hw
  .simp only[abS,(Ac:¬(i:Int)<(s.length:Int))];have hie:i=s.length:=Ac;refine .ID (dn,f,i) rfl ⟨rfl,Hb,?_⟩;simp only
   rw[AT Hh,hie,BZ] at hw;exact hw
 .rintro⟨dn,f,i⟩ h2 ⟨rfl,hf,hw⟩;simp only at hf hw;have fz:∀l:List Ak,l=wf [] s->KO (h1++[.cells (l.map Aa.str)]) (.CW h1.length 0 n 1)=some (h1++[.Ds],.sl 1 ((wf [] s).map Cc)):=by
   rintro l rfl;have hr:∀r∈(wf [] s).map Cc,r.length=1:=λr hr=>by obtain⟨w,_,rfl⟩:=AZ.1 hr;rfl
   have P:((wf [] s).map Cc).flatten=(wf [] s).map Aa.str:=by
    generalize wf [] s=q;induction q with
    |nil=>rfl
    |cons x q ih=>simp[Cc,ih]
   have:=Nh (h:=h1++[.cells ((wf [] s).map Aa.str)]) (id:=h1.length) hr (by rw[P];simp);rw[As,<-hNe] at this;rw[this,BL _ _ (Ab _),DB];rfl
  rcases Bk f s.length with hlt|Hh
  .have hne:s.drop f≠[]:=by intro e;have:=B5 List.length e;simp at this;omega
   rw[wf,Ag hne] at hw;have m:n=dn.length+1:=by rw[hNe,<-hw];simp
   have u:Ay (.FH 1) [.CW h1.length 0 n 1,I (dn.length:Int)]=some (Pt h1.length dn.length):=by have:=Fi (id:=h1.length) (z:=1) (n:=n) (k:= .i64) (Ac:dn.length<n);rwa [F7] at this
   have t:CH (h1++[.cells (dn.map Aa.str++List.replicate (n-dn.length) (S []))]) 1 (Pt h1.length dn.length) (.str (s.drop f))=some (h1++[.cells ((dn++[s.drop f]).map Aa.str)]):=by have F:(h1++[Ej.cells (dn.map Aa.str++List.replicate (n-dn.length) (S []))])[h1.length]?=some (.cells (dn.map Aa.str++List.replicate (n-dn.length) (S []))):=Ax;have E:n-dn.length=1:=Ac;have D:(dn.map Aa.str).length=dn.length:=As ..;simp only[CH,F,P5,Bc];rw[Af ⟨trivial,Ed⟩,BL _ _ (Ab _),DB,E,show List.replicate 1 (S [])=S []::[] from rfl,yN _ _ _ _ D.symm];simp
   simp only[abS,(Ac:(f:Int)<(s.length:Int)),br (z:=0) (k:= .i64) (Ac:f<=s.length),u,t,fz _ hw]
  .rw[AT Hh,wf] at hw;simp only[BD,Bq] at hw;have m:n-dn.length=0:=by rw[hNe,<-hw];omega
   have G:=fz _ hw;rw[m,List.replicate_zero,Bq];simp only[abS,(Ac:¬(f:Int)<(s.length:Int)),G]
section
variable{h h':Ah}{bi:Nat}{b b':BS}{F:Nat->Prop}{n o a:Nat}{t:DU}{av:Aa}
def aHk(lo hi r:Int)(h:Ah):Ca cx 269 [.int .i32 r,.BW [.int .i32 lo],.BW [.int .i32 hi]] h (.bool (decide (lo<=r/\r<=hi))) h:=by rw[Ae,dG,Ò];simp only[Ci];refine⟨λh1=>by simp[h1],λh1=>by simp[h1]⟩
def UF(p:Int×Int):List Aa:=[.func (.func 269) [] [.BW [.int .i32 p.1],.BW [.int .i32 p.2]]]
def aHl{L:List (Int×Int)}(g:L.length<=1000)(r:Int)(h:Ah):Ca cx 268 [.int .i32 r,.BW [.sl 1 (L.map UF)]] h (.bool (L.any λp=>decide (p.1<=r/\r<=p.2))) h:=by
 have hv:Bz 1 (L.map UF) (.sl 1 (L.map UF)):= .mk;have e:=Bz.Ha hv;rw[Ae,xH,aCw];simp only[Ci,e];refine B1 (λn:Nat=>[ff,I (n:Int)]) (λn h1=>n<=L.length/\h1=h/\L.any (λp=>decide (p.1<=r/\r<=p.2))=(L.drop n).any λp=>decide (p.1<=r/\r<=p.2)) (λn=>L.length-n) 0 rfl ⟨Bd _,rfl,rfl⟩ ?_;rintro n h1 ⟨hn,rfl,ha⟩;rcases Bk n L.length with hlt|Hh
 .have c:=Bz.Dh (k:= .i64) hv hlt;have f:∀x y:Int,Cz (.func (.func 269) [] [.BW [.int .i32 x],.BW [.int .i32 y]]) [.int .i32 r]=some (269,[.int .i32 r,.BW [.int .i32 x],.BW [.int .i32 y]]):=λ_ _=>rfl;have d:=aHk L[n].1 L[n].2 r h1;rw[Az hlt,Rt] at ha;rw[UF] at c;simp only[abS,(Ac:(n:Int)<(L.length:Int)),c,f,d.Ad,CR (Ac:n<9223372036854775807)];refine⟨λh2=>?_,λh2=>?_⟩;.rw[ha];simp[h2]
  .rw[Ai h2,I8] at ha;exact By.next (n+1) rfl ⟨hlt,rfl,ha⟩ Ac
 .rw[AT Hh] at ha;simp only[abS,(Ac:¬(n:Int)<(L.length:Int)),ha,lE]
def aMb(r:Int):NW cx 140 [.int .i32 r] (.bool (decide (gp r))):=by
 have d:∀(lo hi:Int) (h:Ah),Ca cx 228 [.int .i32 lo,.int .i32 hi] h (.func (.func 269) [] [.BW [.int .i32 lo],.BW [.int .i32 hi]]) h:=λlo hi h=>by rw[Ae,Vw,qz];simp only[Ci]
 have g:∀(v:Aa) (h:Ah),v.cells=[v]->Ca cx 227 [v] h (.func (.func 268) [] [.BW [v]]) h:=λv h hv=>by rw[Ae,dA,Ì];simp only[Ci,hv]
 have e:=aHl (L:=[(9,10),(12,13),(32,32)]) AI r [];have c:Ay (.Cl 1) [.func (.func 269) [] [.BW [.int .i32 9],.BW [.int .i32 10]],.func (.func 269) [] [.BW [.int .i32 12],.BW [.int .i32 13]],.func (.func 269) [] [.BW [.int .i32 32],.BW [.int .i32 32]]]=some (.sl 1 ([((9:Int),(10:Int)),(12,13),(32,32)].map UF)):=rfl;have f:∀v:Aa,Cz (.func (.func 268) [] [v]) [.int .i32 r]=some (268,[.int .i32 r,v]):=λ_=>rfl;have r2:=g (.sl 1 ([((9:Int),(10:Int)),(12,13),(32,32)].map UF)) [] rfl;have e0:decide (gp r)=([((9:Int),(10:Int)),(12,13),(32,32)].any λp=>decide (p.1<=r/\r<=p.2)):=by
  have c:gp r↔((9<=r/\r<=10)\/(12<=r/\r<=13)\/(32<=r/\r<=32)):=by unfold gp;omega
  simp only[Rt,lE,Rq,<-Bool.decide_or,Dn];exact c
 rw[e0,Tm,cK,V_];simp only[Ci,(d 9 10 []).Ad,(d 12 13 []).Ad,(d 32 32 []).Ad,c,r2.Ad,f,e.Ad]
structure J9(l:Ak)(ws:List Ak):Prop where
 len:l.length<=1000000
 asc:∀c∈l,c.toNat<128
 wf:wf [] l=ws
def MD{l:Ak}{ws:List Ak}(h:(decide (l.length<=1000000)&&l.all (λc=>decide (c.toNat<128))&&decide (wf [] l=ws))=true):J9 l ws:=by simp only[AO,B4,CK] at h;exact⟨h.1.1,h.1.2,h.2⟩
def J9.few{l:Ak}{ws:List Ak}(w:J9 l ws):ws.length<=1000001:=by have:=yL (s:=l) (cur:=[]);have:=w.len;rw[<-w.wf];omega
def uz{l:Ak}{ws:List Ak}(w:J9 l ws)(h:Ah):Ca cx 235 [.str l] h (.sl 1 (ws.map Cc)) (h++[.Ds]):=by have c:=aHj l w.len w.asc h;rw[w.wf] at c;rw[Ae,wM,aCc];simp only[Ci,c.Ad]
def pX{l:Ak}{ws:List Ak}(w:J9 l ws)(s:Ak):NW cx 150 [.str s,.str l] (.bool (decide (s∈ws))):=by have c:Ca cx 235 _ [] _ [.Ds]:=uz w [];have r2:=Ù (CO (ws:=ws)) (by have:=w.few;omega) s [Ej.Ds];rw[Tm,cN,Y_];simp only[Ci,c.Ad,r2.Ad]
def EU{l:Ak}{ws:List Ak}(w:J9 l ws)(t:DU)(av:Aa)(h:Ah):Ca cx 69 [.agg (B2 t av),.str l] h (.bool (decide (t.st ws))) h:=by
 rw[Ae,qe,t69];simp only[Ci,(pX w t.name).BG rfl rfl];refine⟨λh1=>?_,λh1=>?_⟩;.congr 2;unfold DU.st;simp[h1]
 .unfold DU.st;simp[h1]
def XY{l:Ak}{ws:List Ak}(w:J9 l ws)(t:DU)(av:Aa)(h:Ah):Ca cx 72 [.agg (B2 t av),.str l] h (.bool (decide (t.en ws))) h:=by
 rw[Ae,qh,t72];simp only[Ci,(pX w t.name).BG rfl rfl];refine⟨λh1=>?_,λh1=>?_⟩;.congr 2;unfold DU.en;simp[h1]
 .unfold DU.en;simp[h1]
def XZ{l:Ak}{ws:List Ak}(w:J9 l ws)(t:DU)(av:Aa)(h:Ah):Ca cx 68 [.agg (B2 t av),.str l] h (.bool (decide (t.kI ws))) h:=by
 rw[Ae,qd,t68];simp only[Ci,(pX w t.name).BG rfl rfl];refine⟨λh1=>?_,λh1=>?_⟩;.congr 2;unfold DU.kI;simp[h1]
 .unfold DU.kI;simp[h1]
def Rm(t:DU)(av:Aa)(h:Ah):Ca cx 62 [.agg (B2 t av)] h (.bool (decide t.HA)) h:=by
 rw[Ae,p_,t62];simp only[Ci,(aMb t.r).BG rfl rfl];refine⟨λh1=>?_,λh1=>?_⟩;.congr 2;unfold DU.HA;simp[h1]
 .unfold DU.HA;simp[h1]
def Ji(w:PB h bi b F)(t:DU)(av:Aa):Ca cx 60 [Pt bi 0,.agg (B2 t av)] h (.bool (decide t.ok)) h:=by
 obtain⟨x,l0⟩:=w.LN;rw[Ae,py,t60];simp only[abS,l0];refine⟨λh1=>?_,λh1=>?_⟩;.congr 2;unfold DU.ok;simp[h1]
 .unfold DU.ok;simp[h1]
def u_(nm:Ak)(h:Ah):Ca cx 70 [.str nm] h (.agg (B2 (Mm nm) .slnil)) h:=by rw[Ae,qg,t70];simp only[abS,Nat.reduceLeDiff,↓reduceIte,Bv,Mm]
def pY(w:PB h bi b F)(m:Int):Fe h F 64 [Pt bi 0,I m] tt bi (b.again m).1:=by obtain⟨d,w1,c⟩:=E9 w m;refine⟨_,_,?_,w1,c⟩;rw[Ae,oX,t64];simp only[Ci,d]
def Rn(w:PB h bi b F)(g:Gz b n o a):Ca cx 79 [Pt bi 0] h (.bool (decide b.Xa)) h:=by rw[Ae,qn,t79];simp only[Ci,(aDi w g Bb).Ad];rfl
def pZ(w:PB h bi b F)(g:Gz b (n+4) o a)(ht:t.Sm)(hv:A8 t.Av av):Fe h F 71 [Pt bi 0,.agg (B2 t av)] (.tuple []) bi (b.Ns t):=by obtain⟨h1,j,f,w1,d⟩:=ET w g ht hv;obtain⟨h2,i,r2,e,c⟩:=OH w1 (g.Df ht);refine⟨h2,i,?_,e,d.trans c⟩;rw[Ae,oY,t71];simp only[Ci,f.Ad,r2.Ad]
end
def eL:J9 aUc eHB:=MD D8
def X0:J9 aT7 um:=MD D8
def ZS:J9 aUl pU:=MD D8
def va:J9 aUS eNo:=MD D8
def X1:J9 aTZ XS:=MD D8
def p8:J9 aUC sNS:=MD D8
def yO:J9 aTN aDb:=MD D8
def vd:J9 aUG sHN:=MD D8
def Qh:J9 aTs HR:=MD D8
def ve:J9 aTS sT1:=MD D8
def vf:J9 [116,100,32,116,104] sTd:=MD D8
def Ii:J9 aTu [aTu]:=MD D8
def I2:J9 aTx [aTx]:=MD D8
def TT:J9 aTJ [aTJ]:=MD D8
def Ro:J9 aTV [aTV]:=MD D8
def JY:J9 aTE [aTE]:=MD D8
def kO:J9 aTy [aTy]:=MD D8
def SH:J9 aTD [aTD]:=MD D8
def yP:J9 aU6 [aU6]:=MD D8
def vg:J9 [116,114] [[116,114]]:=MD D8
def FE:J9 aTv [aTv]:=MD D8
section
variable{h h':Ah}{bi:Nat}{b b':BS}{F:Nat->Prop}{n o a:Nat}{t:DU}{av:Aa}
def aHm(w:PB h bi b F)(g:Gz b (n+5) o a)(ht:t.Sm)(hv:A8 t.Av av):Fe h F 22 [Pt bi 0,.agg (B2 t av)] (.bool (b.GG t).2) bi (b.GG t).1:=by
 have B9:=w.B9;unfold BS.GG;by_cases u:¬t.ok;.rw[Af u];have c:=Ji w t av;rw[Ai u] at c;refine⟨_,_,?_,w,.refl⟩;rw[Ae,Px,t22];simp only[abS,↓reduceIte,c.Ad]
 rw[Ag u];have c:=Ji w t av;rw[Al (Ei.1 u)] at c;by_cases e:t.k=1;.rw[Af e];refine⟨_,_,?_,w,.refl⟩;rw[Ae,Px,t22];simp only[abS,↓reduceIte,c.Ad,A6 e]
 rw[Ag e];by_cases r:t.HA;.rw[Af r];have d:=Rm t av h;rw[Al r] at d;refine⟨_,_,?_,w,.refl⟩;rw[Ae,Px,t22];simp only[abS,↓reduceIte,c.Ad,d.Ad,e]
 rw[Ag r];have d:=Rm t av h;rw[Ai r] at d;by_cases q:t.kI eHB;.rw[Af q];have f:=XZ eL t av h;rw[Al q] at f;refine⟨_,_,?_,w,.refl⟩;rw[Ae,Px,t22];simp only[abS,↓reduceIte,c.Ad,d.Ad,f.Ad,e]
 rw[Ag q];have f:=XZ eL t av h;rw[Ai q] at f;by_cases m:t.k=4;.rw[Af m];obtain⟨h1,y,i,w1,j⟩:=LG (s:=t.data) w (g.dn (n':=n+1) Ac) (by have:=ht.data;omega) b.Cy;refine⟨_,_,?_,w1,j⟩;rw[Ae,Px,t22];simp only[abS,↓reduceIte,c.Ad,d.Ad,f.Ad,e,A6 m,i.Ad,B9]
 rw[Ag m];by_cases p:t.st [aTu];.rw[Af p];have l:=EU Ii t av h;rw[Al p] at l;obtain⟨h1,y,i,w1,j⟩:=ET w (g.dn (n':=n+4) Ac) ht hv;obtain⟨z,x,v⟩:=E9 w1 3;refine⟨_,_,?_,x,j.trans v⟩;rw[Ae,Px,t22];simp only[abS,↓reduceIte,c.Ad,d.Ad,f.Ad,l.Ad,e,m,i.Ad,z]
 rw[Ag p];have l:=EU Ii t av h;rw[Ai p] at l;have rt:=u_ aTu h;obtain⟨h1,y,i,w1,j⟩:=ET (t:=Mm aTu) (av:= .slnil) w (g.dn (n':=n+4) Ac) (Iz AI) (.inr ⟨rfl,rfl⟩);obtain⟨h2,A,r2,x,v⟩:=pY w1 3;simp only[Mm] at rt i;refine⟨_,_,?_,x,j.trans v⟩;rw[Ae,Px,t22];simp only[abS,↓reduceIte,c.Ad,d.Ad,f.Ad,l.Ad,e,m,rt.Ad,i.Ad,r2.Ad,BS.again]
def aHn(w:PB h bi b F)(g:Gz b (n+1000) o a)(ht:t.Sm)(hv:A8 t.Av av)(H:t.st [aTu]->Fe h F 27 [Pt bi 0,.agg (B2 t av)] ff bi (b.Jv t)):Fe h F 23 [Pt bi 0,.agg (B2 t av)] (.bool (b.GH t).2) bi (b.GH t).1:=by
 have B9:=w.B9;unfold BS.GH;by_cases x:¬t.ok;.rw[Af x];have c:=Ji w t av;rw[Ai x] at c;refine⟨_,_,?_,w,.refl⟩;rw[Ae,N7,t23];simp only[abS,↓reduceIte,c.Ad]
 rw[Ag x];have c:=Ji w t av;rw[Al (Ei.1 x)] at c;by_cases e:t.k=1;.rw[Af e];refine⟨_,_,?_,w,.refl⟩;rw[Ae,N7,t23];simp only[abS,↓reduceIte,c.Ad,A6 e]
 rw[Ag e];by_cases v:t.HA;.rw[Af v];have d:=Rm t av h;rw[Al v] at d;refine⟨_,_,?_,w,.refl⟩;rw[Ae,N7,t23];simp only[abS,↓reduceIte,c.Ad,d.Ad,e]
 rw[Ag v];have d:=Rm t av h;rw[Ai v] at d;by_cases u:t.kI eHB;.rw[Af u];have i:=XZ eL t av h;rw[Al u] at i;refine⟨_,_,?_,w,.refl⟩;rw[Ae,N7,t23];simp only[abS,↓reduceIte,c.Ad,d.Ad,i.Ad,e]
 rw[Ag u];have i:=XZ eL t av h;rw[Ai u] at i;by_cases m:t.k=4;.rw[Af m];obtain⟨h1,D,f,w1,j⟩:=LG (s:=t.data) w (g.dn (n':=n+1) Ac) (by have:=ht.data;omega) 0;refine⟨_,_,?_,w1,j⟩;rw[Ae,N7,t23];simp only[abS,↓reduceIte,c.Ad,d.Ad,i.Ad,e,A6 m,f.Ad]
 rw[Ag m];by_cases q:t.st [aTu];.rw[Af q];have l:=EU Ii t av h;rw[Al q] at l;obtain⟨h1,D,f,w1,j⟩:=H q;refine⟨_,_,?_,w1,j⟩;rw[Ae,N7,t23];simp only[abS,↓reduceIte,c.Ad,d.Ad,i.Ad,l.Ad,e,m,f.Ad]
 rw[Ag q];have l:=EU Ii t av h;rw[Ai q] at l;by_cases r:t.st [aTx];.rw[Af r];have p:=EU I2 t av h;rw[Al r] at p;obtain⟨h1,D,f,w1,j⟩:=ET w (g.dn (n':=n+4) Ac) ht hv;obtain⟨C,B,z⟩:=ux w1 (b.No 1);obtain⟨E,A,y⟩:=E9 B 4;refine⟨_,_,?_,A,(j.trans z).trans y⟩;rw[Ae,N7,t23];simp only[abS,↓reduceIte,c.Ad,d.Ad,i.Ad,l.Ad,p.Ad,e,m,f.Ad,C,E]
 rw[Ag r];have p:=EU I2 t av h;rw[Ai r] at p;have rt:=u_ aTx h;obtain⟨h1,D,f,w1,j⟩:=ET (t:=Mm aTx) (av:= .slnil) w (g.dn (n':=n+4) Ac) (Iz AI) (.inr ⟨rfl,rfl⟩);obtain⟨C,B,z⟩:=ux w1 (b.No 1);obtain⟨I,J,G,A,y⟩:=pY B 4;simp only[Mm] at rt f;refine⟨_,_,?_,A,(j.trans z).trans y⟩;rw[Ae,N7,t23];simp only[abS,↓reduceIte,c.Ad,d.Ad,i.Ad,l.Ad,p.Ad,e,m,rt.Ad,f.Ad,C,G.Ad,BS.again]
def eM(w:PB h bi b F)(g:Gz b (n+1004) o a)(ht:t.Sm)(hv:A8 t.Av av)(Z:t.st [aTu]->Fe h F 27 [Pt bi 0,.agg (B2 t av)] ff bi (b.Jv t)):Fe h F 24 [Pt bi 0,.agg (B2 t av)] (.bool (b.DH t).2) bi (b.DH t).1:=by
 have B9:=w.B9;unfold BS.DH;by_cases L:¬t.ok;.rw[Af L];have e:=Ji w t av;rw[Ai L] at e;refine⟨_,_,?_,w,.refl⟩;rw[Ae,Ge,t24];simp only[abS,↓reduceIte,e.Ad]
 rw[Ag L];have e:=Ji w t av;rw[Al (Ei.1 L)] at e;by_cases i:t.k=1;.rw[Af i];refine⟨_,_,?_,w,.refl⟩;rw[Ae,Ge,t24];simp only[abS,↓reduceIte,e.Ad,A6 i]
 rw[Ag i];by_cases K:t.st [aTx];.rw[Af K];have f:=EU I2 t av h;rw[Al K] at f;refine⟨_,_,?_,w,.refl⟩;rw[Ae,Ge,t24];simp only[abS,↓reduceIte,e.Ad,f.Ad,i]
 rw[Ag K];have f:=EU I2 t av h;rw[Ai K] at f;by_cases J:t.kI um;.rw[Af J];have j:=XZ X0 t av h;rw[Al J] at j;refine⟨_,_,?_,w,.refl⟩;rw[Ae,Ge,t24];simp only[abS,↓reduceIte,e.Ad,f.Ad,j.Ad,i]
 rw[Ag J];have j:=XZ X0 t av h;rw[Ai J] at j;by_cases H:t.HA;.rw[Af H];have l:=Rm t av h;rw[Al H] at l;obtain⟨h1,y,d,w1,c⟩:=XU w (g.dn (n':=n+5) Ac) ht.r;refine⟨_,_,?_,w1,c⟩;rw[Ae,Ge,t24];simp only[abS,↓reduceIte,e.Ad,f.Ad,j.Ad,l.Ad,i,d.Ad]
 rw[Ag H];have l:=Rm t av h;rw[Ai H] at l;by_cases p:t.k=4;.rw[Af p];obtain⟨h1,y,d,w1,c⟩:=LG (s:=t.data) w (g.dn (n':=n+1) Ac) (by have:=ht.data;omega) 0;refine⟨_,_,?_,w1,c⟩;rw[Ae,Ge,t24];simp only[abS,↓reduceIte,e.Ad,f.Ad,j.Ad,l.Ad,i,A6 p,d.Ad]
 rw[Ag p];by_cases C:t.st [aTu];.rw[Af C];have m:=EU Ii t av h;rw[Al C] at m;obtain⟨h1,y,d,w1,c⟩:=Z C;refine⟨_,_,?_,w1,c⟩;rw[Ae,Ge,t24];simp only[abS,↓reduceIte,e.Ad,f.Ad,j.Ad,l.Ad,m.Ad,i,p,d.Ad]
 rw[Ag C];have m:=EU Ii t av h;rw[Ai C] at m;by_cases G:t.st XS;.rw[Af G];have q:=EU X1 t av h;rw[Al G] at q;obtain⟨h1,y,d,w1,c⟩:=pZ w (g.dn (n':=n+4) Ac) ht hv;refine⟨_,_,?_,w1,c⟩;rw[Ae,Ge,t24];simp only[abS,↓reduceIte,e.Ad,f.Ad,j.Ad,l.Ad,m.Ad,q.Ad,i,p,d.Ad]
 rw[Ag G];have q:=EU X1 t av h;rw[Ai G] at q;by_cases E:t.st [aTJ];.rw[Af E];have v:=EU TT t av h;rw[Al E] at v;obtain⟨h1,y,d,w1,c⟩:=XV w (g.dn (n':=n+4) Ac) ht hv 2;refine⟨_,_,?_,w1,c⟩;rw[Ae,Ge,t24];simp only[abS,↓reduceIte,e.Ad,f.Ad,j.Ad,l.Ad,m.Ad,q.Ad,v.Ad,i,p,d.Ad]
 rw[Ag E];have v:=EU TT t av h;rw[Ai E] at v;by_cases D:t.st sNS;.rw[Af D];have z:=EU p8 t av h;rw[Al D] at z;obtain⟨h1,y,d,w1,c⟩:=XV w (g.dn (n':=n+4) Ac) ht hv 3;refine⟨_,_,?_,w1,c⟩;rw[Ae,Ge,t24];simp only[abS,↓reduceIte,e.Ad,f.Ad,j.Ad,l.Ad,m.Ad,q.Ad,v.Ad,z.Ad,i,p,d.Ad]
 rw[Ag D];have z:=EU p8 t av h;rw[Ai D] at z;by_cases IS:t.st [aTV];.rw[Af IS];have YJ:=EU Ro t av h;rw[Al IS] at YJ;obtain⟨h1,y,d,w1,c⟩:=XV w (g.dn (n':=n+4) Ac) ht hv 4;refine⟨_,_,?_,w1,c⟩;rw[Ae,Ge,t24];simp only[abS,↓reduceIte,e.Ad,f.Ad,j.Ad,l.Ad,m.Ad,q.Ad,v.Ad,z.Ad,YJ.Ad,i,p,d.Ad]
 rw[Ag IS];have YJ:=EU Ro t av h;rw[Ai IS] at YJ;by_cases MC:t.st [aTE];.rw[Af MC];have gq:=EU JY t av h;rw[Al MC] at gq;obtain⟨h1,y,d,w1,c⟩:=ET w (g.dn (n':=n+4) Ac) ht hv;obtain⟨M,B,A⟩:=E9 w1 5;refine⟨_,_,?_,B,c.trans A⟩;rw[Ae,Ge,t24];simp only[abS,↓reduceIte,e.Ad,f.Ad,j.Ad,l.Ad,m.Ad,q.Ad,v.Ad,z.Ad,YJ.Ad,gq.Ad,i,p,d.Ad,M]
 rw[Ag MC];have gq:=EU JY t av h;rw[Ai MC] at gq;by_cases Nq:t.en [aTx];.rw[Af Nq];have kP:=XY I2 t av h;rw[Al Nq] at kP;obtain⟨h1,y,d,w1,c⟩:=OH w (g.dn (n':=n) Ac);obtain⟨M,B,A⟩:=E9 w1 6;refine⟨_,_,?_,B,c.trans A⟩;rw[Ae,Ge,t24];simp only[abS,↓reduceIte,e.Ad,f.Ad,j.Ad,l.Ad,m.Ad,q.Ad,v.Ad,z.Ad,YJ.Ad,gq.Ad,kP.Ad,i,p,d.Ad,M]
 rw[Ag Nq];have kP:=XY I2 t av h;rw[Ai Nq] at kP;by_cases Oe:t.st [Bb]
 .rw[Af Oe];have xn:=EU FE t av h;rw[Al Oe] at xn;obtain⟨h1,y,d,w1,c⟩:=ET w (g.dn (n':=n+4) Ac) ht hv;have g1:=(g.dn (n':=n+2+4) Ac).Df ht;obtain⟨h2,F2,r2,B,A⟩:=uw w1 g1;obtain⟨W,T,R⟩:=Kx B false;obtain⟨V,O,Q⟩:=E9 T 18;obtain⟨tv,Y,N⟩:=O.ltm;have tb:(b.Df t).tm.length<=900000000:=by have:=g1.rm.tm;omega
  obtain⟨u,X,hu⟩:=ua N.1 Hb (put (put h2 bi 14 ff) bi 4 (I 18));have e6:=hu.1.zx 18 (by simp only;have:AK=140737488355328:=rfl;omega);have em:Ay (.Cl 1) [I 18]=some (.sl 1 [Cu 18]):=rfl;have Ql:Sw ((b.Df t).tm++[(18:Int)]) (.sl 1 (((b.Df t).tm++[(18:Int)]).map Cu)):= .gK;obtain⟨U,S,P⟩:=aDj O Ql;refine⟨_,_,?_,S,(((c.trans A).trans R).trans Q).trans P⟩;rw[Ae,Ge,t24];simp only[abS,↓reduceIte,e.Ad,f.Ad,j.Ad,l.Ad,m.Ad,q.Ad,v.Ad,z.Ad,YJ.Ad,gq.Ad,kP.Ad,xn.Ad,i,p,d.Ad,r2.Ad,W,V,Y,X.Ad,em,e6,U]
 rw[Ag Oe];have xn:=EU FE t av h;rw[Ai Oe] at xn;by_cases QI:t.en [Bb];.rw[Af QI];have x:=XY FE t av h;rw[Al QI] at x;obtain⟨h1,y,d,w1,c⟩:=aDg w (g.dn (n':=n) Ac);refine⟨_,_,?_,w1,c⟩;rw[Ae,Ge,t24];simp only[abS,↓reduceIte,e.Ad,f.Ad,j.Ad,l.Ad,m.Ad,q.Ad,v.Ad,z.Ad,YJ.Ad,gq.Ad,kP.Ad,xn.Ad,x.Ad,i,p,d.Ad]
 rw[Ag QI];have x:=XY FE t av h;rw[Ai QI] at x;obtain⟨h1,y,d,w1,c⟩:=OH w (g.dn (n':=n) Ac);obtain⟨h2,F2,r2,B,A⟩:=pY w1 6;refine⟨_,_,?_,B,c.trans A⟩;rw[Ae,Ge,t24];simp only[abS,↓reduceIte,e.Ad,f.Ad,j.Ad,l.Ad,m.Ad,q.Ad,v.Ad,z.Ad,YJ.Ad,gq.Ad,kP.Ad,xn.Ad,x.Ad,i,p,d.Ad,r2.Ad,BS.again]
def aHp(w:PB h bi b F)(g:Gz b (n+1004) o a)(ht:t.Sm)(hv:A8 t.Av av)(C:t.st [aTu]->Fe h F 27 [Pt bi 0,.agg (B2 t av)] ff bi (b.Jv t)):Fe h F 25 [Pt bi 0,.agg (B2 t av)] (.bool (b.GI t).2) bi (b.GI t).1:=by
 have B9:=w.B9;unfold BS.GI;by_cases B:¬t.ok;.rw[Af B];have c:=Ji w t av;rw[Ai B] at c;refine⟨_,_,?_,w,.refl⟩;rw[Ae,L2,gl];simp only[abS,↓reduceIte,c.Ad]
 rw[Ag B];have c:=Ji w t av;rw[Al (Ei.1 B)] at c;by_cases i:t.k=1;.rw[Af i];refine⟨_,_,?_,w,.refl⟩;rw[Ae,L2,gl];simp only[abS,↓reduceIte,c.Ad,A6 i]
 rw[Ag i];by_cases A:t.st sHN;.rw[Af A];have f:=EU vd t av h;rw[Al A] at f;refine⟨_,_,?_,w,.refl⟩;rw[Ae,L2,gl];simp only[abS,↓reduceIte,c.Ad,f.Ad,i]
 rw[Ag A];have f:=EU vd t av h;rw[Ai A] at f;by_cases z:t.kI eNo;.rw[Af z];have j:=XZ va t av h;rw[Al z] at j;refine⟨_,_,?_,w,.refl⟩;rw[Ae,L2,gl];simp only[abS,↓reduceIte,c.Ad,f.Ad,j.Ad,i]
 rw[Ag z];have j:=XZ va t av h;rw[Ai z] at j;by_cases s:t.st [aTu];.rw[Af s];have l:=EU Ii t av h;rw[Al s] at l;obtain⟨h1,u,e,w1,d⟩:=C s;refine⟨_,_,?_,w1,d⟩;rw[Ae,L2,gl];simp only[abS,↓reduceIte,c.Ad,f.Ad,j.Ad,l.Ad,i,e.Ad]
 rw[Ag s];have l:=EU Ii t av h;rw[Ai s] at l;by_cases y:t.en [aTE];.rw[Af y];have m:=XY JY t av h;rw[Al y] at m;obtain⟨h1,u,e,w1,d⟩:=OH w (g.dn (n':=n) Ac);obtain⟨G,E,D⟩:=E9 w1 4;refine⟨_,_,?_,E,d.trans D⟩;rw[Ae,L2,gl];simp only[abS,↓reduceIte,c.Ad,f.Ad,j.Ad,l.Ad,m.Ad,i,e.Ad,G]
 rw[Ag y];have m:=XY JY t av h;rw[Ai y] at m;by_cases x:t.HA;.rw[Af x];have p:=Rm t av h;rw[Al x] at p;obtain⟨h1,u,e,w1,d⟩:=eM w g ht hv C;refine⟨_,_,?_,w1,d⟩;rw[Ae,L2,gl];simp only[abS,↓reduceIte,c.Ad,f.Ad,j.Ad,l.Ad,m.Ad,p.Ad,i,e.Ad]
 rw[Ag x];have p:=Rm t av h;rw[Ai x] at p;by_cases r:t.k=4;.rw[Af r];obtain⟨h1,u,e,w1,d⟩:=eM w g ht hv C;refine⟨_,_,?_,w1,d⟩;rw[Ae,L2,gl];simp only[abS,↓reduceIte,c.Ad,f.Ad,j.Ad,l.Ad,m.Ad,p.Ad,i,A6 r,e.Ad]
 rw[Ag r];by_cases v:t.st aDb;.rw[Af v];have q:=EU yO t av h;rw[Al v] at q;obtain⟨h1,u,e,w1,d⟩:=eM w g ht hv C;refine⟨_,_,?_,w1,d⟩;rw[Ae,L2,gl];simp only[abS,↓reduceIte,c.Ad,f.Ad,j.Ad,l.Ad,m.Ad,p.Ad,q.Ad,i,r,e.Ad]
 rw[Ag v];have q:=EU yO t av h;rw[Ai v] at q;obtain⟨h1,u,e,w1,d⟩:=OH w (g.dn (n':=n) Ac);obtain⟨h2,H,r2,E,D⟩:=pY w1 4;refine⟨_,_,?_,E,d.trans D⟩;rw[Ae,L2,gl];simp only[abS,↓reduceIte,c.Ad,f.Ad,j.Ad,l.Ad,m.Ad,p.Ad,q.Ad,i,r,e.Ad,r2.Ad,BS.again]
def vh(w:PB h bi b F)(ba:BA b)(rm:Cd b (n+4))(ht:t.Sm)(hv:A8 t.Av av):Fe h F 39 [Pt bi 0,.agg (B2 t av)] (I (b.No 1)) bi (b.Df t):=by obtain⟨d,f,c,tt,G,w,hc,rfl⟩:=w;obtain⟨h',o',e,r,w',x⟩:=dh (m:=n) w ba rm L6 hv ht.Av ht.name;exact⟨h',_,r,⟨d,o',c,tt,e,w',by unfold BS.Df;rw[E7];exact hc,rfl⟩,x⟩
def p9(w:PB h bi b F)(ba:BA b)(rm:Cd b (n+4))(ht:t.Sm)(hv:A8 t.Av av)(s:Int):Fe h F 45 [Pt bi 0,.agg (B2 t av),I s] (.tuple []) bi (b.Eu t.name t.Av s):=by obtain⟨d,f,c,tt,G,w,hc,rfl⟩:=w;obtain⟨h',o',e,r,w',x⟩:=aCT (m:=n) w ba rm L6 hv ht.Av ht.name s;exact⟨h',_,r,⟨d,o',c,tt,e,w',by show Dj (b.E5 t.name t.Av 1).AY c;rw[E7];exact hc,rfl⟩,x⟩
def aDn(w:PB h bi b F)(rm:Cd b n):Fe h F 56 [Pt bi 2] (.agg b.oI.row) bi b.IQ:=by obtain⟨d,f,c,tt,G,w,hc,rfl⟩:=w;obtain⟨h',o',r,w',x⟩:=ã w rm;exact⟨h',_,r,⟨d,o',c,tt,G,w',by have e:b.IQ.AY=b.AY:=(by unfold BS.IQ;split<;>rfl);rw[e];exact hc,rfl⟩,x⟩
def ú(w:PB h bi b F)(rm:Cd b n):Fe h F 54 [Pt bi 3] (.tuple []) bi {b with AY:=b.AY++[Cp.zero]}:=by obtain⟨e,d,c,tt,G,w,hc,rfl⟩:=w;have Vq:=rm.AY;obtain⟨fs,Jn,Qv⟩:=hc;obtain⟨u,r2,hu⟩:=f63 (h:=h) (id:=bi) (o:=3) (l:=fs) ⟨c,w.lO,Qv⟩ (by rw[<-Jn,As] at Vq;omega);exact⟨_,_,r2,⟨e,d,u,tt,G,w.PD (u:=u) (l:=b.AY++[Cp.zero]),⟨_,by rw[BP,Jn];rfl,hu⟩,rfl⟩,BN⟩
def ew(w:PB h bi b F)(rm:Cd b n)(x:Int):∃r,Fe h F 151 [Pt bi 2,I x] r bi {b with AL:=Di x b.AL}:=by obtain⟨d,e,c,tt,G,w,hc,rfl⟩:=w;have ho:=rm.AL;obtain⟨u,r2,hu⟩:=sg w.sO Ac x;exact⟨_,_,_,r2,⟨d,u,c,tt,G,w.Mk hu,hc,rfl⟩,BN⟩
def ZT(ba:BA b)(rm:Cd b (n+6))(ht:t.Sm)(hs:t.st HR):BA (b.DH t).1/\Cd (b.DH t).1 n:=by
 have f:=hs.1;have g:Cd (b.Df t) (n+2):=JR (rm.le Ac) ht.Av ht.name;have b4:BA (b.Df t):=J_ ba;have pa:∀{c:BS} {m:Nat},BA c->Cd c m->BA c.IQ/\Cd c.IQ m:=λ{c m} h r=>by
  unfold BS.IQ;split;.exact⟨h,r⟩
  .exact⟨⟨h.ok,h.Cy⟩,r.II (Ch _ _)⟩
 have en:∀ws,¬t.en ws:=λws h=>by have:=h.1;omega
 have q:∀ws,¬t.kI ws:=λws h=>by have:=h.1;omega
 have hd:¬t.st [aTx]:=λh=>by have h1:=h.2;have h2:=hs.2;rw[AU.1 h1] at h2;revert h2;decide
 have hx:¬t.st [aTu]:=λh=>by have h1:=h.2;have h2:=hs.2;rw[AU.1 h1] at h2;revert h2;decide
 have p:¬t.st [aTE]:=λh=>by have h1:=h.2;have h2:=hs.2;rw[AU.1 h1] at h2;revert h2;decide
 unfold BS.DH;rw[Ag (show¬¬t.ok by unfold DU.ok;omega),Ag Ac,Ag hd,Ag (q _),Ag (show¬t.HA by unfold DU.HA;omega),Ag Ac,Ag hx];by_cases l:t.st XS;.rw[Af l];exact⟨(pa b4 g).1,(pa b4 g).2.le Ac⟩
 rw[Ag l];have i:Cd (b.Df t) n:=g.le Ac;by_cases k:t.st [aTJ];.rw[Af k];exact⟨⟨b4.ok,b4.Cy⟩,i.eq rfl rfl rfl rfl⟩
 rw[Ag k];by_cases j:t.st sNS;.rw[Af j];exact⟨⟨b4.ok,b4.Cy⟩,i.eq rfl rfl rfl rfl⟩
 rw[Ag j];by_cases IS:t.st [aTV];.rw[Af IS];exact⟨⟨b4.ok,b4.Cy⟩,i.eq rfl rfl rfl rfl⟩
 rw[Ag IS,Ag p,Ag (en _)];have Oe:t.st [Bb]:=⟨f,by
  have key:∀w∈HR,w∈XS\/w∈[aTJ]\/w∈sNS\/w∈[aTV]\/w∈[Bb]:=AI;rcases key _ hs.2 with h|h|h|h|h
  .exact absurd ⟨f,h⟩ l
  .exact absurd ⟨f,h⟩ k
  .exact absurd ⟨f,h⟩ j
  .exact absurd ⟨f,h⟩ IS
  .exact h⟩
 rw[Af Oe];refine⟨⟨b4.ok,b4.Cy⟩,?_⟩;have d:Cd {b.Df t with AY:=(b.Df t).AY++[Cp.zero]} (n+1):=g.tF (e:=Cp.zero) Ax (λe he=>by
  rcases Aq.1 he with he|he
  .exact .inl he
  .exact .inr (by simpa using he)) ⟨AI,AI,λa ha=>by cases ha⟩
 exact⟨(d.le (m':=n) Ac).n,(d.le (m':=n) Ac).at_,(d.le (m':=n) Ac).data,(d.le (m':=n) Ac).AL,(d.le (m':=n) Ac).AY,by have:=d.tm;simp only[Ap,Bc] at this⊢;omega,d.C5,d.ZG⟩
def aHq(w:PB h bi b F)(ba:BA b)(rm:Cd b (n+6))(ht:t.Sm)(hv:A8 t.Av av)(hs:t.st HR):Fe h F 24 [Pt bi 0,.agg (B2 t av)] (.bool (b.DH t).2) bi (b.DH t).1:=by
 have hk:=hs.1;have hc:av.cells=[av]:=Bz.cells hv;have l:=Ji w t av;rw[Al (show t.ok by unfold DU.ok;omega)] at l;have hd:¬t.st [aTx]:=λh=>by have h1:=h.2;have h2:=hs.2;rw[AU.1 h1] at h2;revert h2;decide
 have hx:¬t.st [aTu]:=λh=>by have h1:=h.2;have h2:=hs.2;rw[AU.1 h1] at h2;revert h2;decide
 have s:¬t.st [aTE]:=λh=>by have h1:=h.2;have h2:=hs.2;rw[AU.1 h1] at h2;revert h2;decide
 have en:∀ws,¬t.en ws:=λws h=>by have:=h.1;omega
 have D:∀ws,¬t.kI ws:=λws h=>by have:=h.1;omega
 have k:=EU I2 t av h;have j:=XZ X0 t av h;have i:=Rm t av h;have g:=EU Ii t av h;have e:=EU X1 t av h;have f:=EU TT t av h;have m:=EU p8 t av h;have YJ:=EU Ro t av h;have gq:=EU JY t av h;have kP:=XY I2 t av h;have xn:=EU FE t av h;rw[Ai hd] at k;rw[Ai (D _)] at j;rw[Ai (show¬t.HA by unfold DU.HA;omega)] at i;rw[Ai hx] at g;rw[Ai s] at gq;rw[Ai (en _)] at kP;simp only[B2,hk] at l k j i g e f m YJ gq kP xn;unfold BS.DH;rw[Ag (show¬¬t.ok by unfold DU.ok;omega),Ag Ac,Ag hd,Ag (D _),Ag (show¬t.HA by unfold DU.HA;omega),Ag Ac,Ag hx];have z:Cd (b.Df t) (n+2):=JR (rm.le Ac) ht.Av ht.name;by_cases r:t.st XS
 .rw[Af r];rw[Al r] at e;obtain⟨h1,v,c,w1,d⟩:=vh (n:=n+2) w ba (rm.le Ac) ht hv;obtain⟨h2,R,r2,y,x⟩:=aDn w1 z;refine⟨_,_,?_,y,d.trans x⟩;have C:Ca cx 71 [Pt bi 0,.agg (B2 t av)] h (.tuple []) h2:=by rw[Ae,oY,t71];simp only[Ci,c.Ad,r2.Ad]
  simp only[B2,hk] at C;rw[Ae,Ge,t24];simp only[abS,↓reduceIte,B2,hk,l.Ad,k.Ad,j.Ad,i.Ad,g.Ad,e.Ad,(AI:¬(2:Int)=1),(AI:¬(2:Int)=4),C.Ad]
 rw[Ag r];rw[Ai r] at e;by_cases q:t.st [aTJ];.rw[Af q];rw[Al q] at f;obtain⟨h1,v,c,w1,d⟩:=p9 (n:=n+2) w ba (rm.le Ac) ht hv 2;refine⟨_,_,?_,w1,d⟩;simp only[B2,hk] at c;rw[Ae,Ge,t24];simp only[abS,↓reduceIte,B2,hk,l.Ad,k.Ad,j.Ad,i.Ad,g.Ad,e.Ad,f.Ad,(AI:¬(2:Int)=1),(AI:¬(2:Int)=4),c.Ad]
 rw[Ag q];rw[Ai q] at f;by_cases p:t.st sNS;.rw[Af p];rw[Al p] at m;obtain⟨h1,v,c,w1,d⟩:=p9 (n:=n+2) w ba (rm.le Ac) ht hv 3;refine⟨_,_,?_,w1,d⟩;simp only[B2,hk] at c;rw[Ae,Ge,t24];simp only[abS,↓reduceIte,B2,hk,l.Ad,k.Ad,j.Ad,i.Ad,g.Ad,e.Ad,f.Ad,m.Ad,(AI:¬(2:Int)=1),(AI:¬(2:Int)=4),c.Ad]
 rw[Ag p];rw[Ai p] at m;by_cases IS:t.st [aTV];.rw[Af IS];rw[Al IS] at YJ;obtain⟨h1,v,c,w1,d⟩:=p9 (n:=n+2) w ba (rm.le Ac) ht hv 4;refine⟨_,_,?_,w1,d⟩;simp only[B2,hk] at c;rw[Ae,Ge,t24];simp only[abS,↓reduceIte,B2,hk,l.Ad,k.Ad,j.Ad,i.Ad,g.Ad,e.Ad,f.Ad,m.Ad,YJ.Ad,(AI:¬(2:Int)=1),(AI:¬(2:Int)=4),c.Ad]
 rw[Ag IS,Ag s,Ag (en _)];rw[Ai IS] at YJ;have Oe:t.st [Bb]:=⟨hk,by
  have key:∀w∈HR,w∈XS\/w∈[aTJ]\/w∈sNS\/w∈[aTV]\/w∈[Bb]:=AI;rcases key _ hs.2 with h|h|h|h|h
  .exact absurd ⟨hk,h⟩ r
  .exact absurd ⟨hk,h⟩ q
  .exact absurd ⟨hk,h⟩ p
  .exact absurd ⟨hk,h⟩ IS
  .exact h⟩
 rw[Af Oe];rw[Al Oe] at xn;obtain⟨h1,v,c,w1,d⟩:=vh (n:=n+2) w ba (rm.le Ac) ht hv;obtain⟨h2,R,r2,y,x⟩:=ú w1 z;obtain⟨N,K,H⟩:=Kx y false;obtain⟨M,B,G⟩:=E9 K 18;obtain⟨S,P,A⟩:=B.ltm;have T:(b.Df t).tm.length<=900000000:=by have:=z.tm;omega
 obtain⟨u,O,hu⟩:=ua A.1 Hb (put (put h2 bi 14 ff) bi 4 (I 18));have Q:=hu.1.zx 18 (by simp only;have:AK=140737488355328:=rfl;omega);have em:Ay (.Cl 1) [I 18]=some (.sl 1 [Cu 18]):=rfl;have Ql:Sw ((b.Df t).tm++[(18:Int)]) (.sl 1 (((b.Df t).tm++[(18:Int)]).map Cu)):= .gK;obtain⟨L,J,E⟩:=aDj B Ql;refine⟨_,_,?_,J,(((d.trans x).trans H).trans G).trans E⟩;simp only[B2,hk] at c;rw[Ae,Ge,t24];simp only[abS,↓reduceIte,B2,hk,l.Ad,k.Ad,j.Ad,i.Ad,g.Ad,e.Ad,f.Ad,m.Ad,YJ.Ad,gq.Ad,kP.Ad,xn.Ad,(AI:¬(2:Int)=1),(AI:¬(2:Int)=4),c.Ad,r2.Ad,N,M,P,O.Ad,em,Q,L]
def yQ(g:Gz b (n+1) o a):BA {b with AL:=b.AL++[BS.HB b.head]}/\Cd {b with AL:=b.AL++[BS.HB b.head]} n:=
 ⟨⟨g.ok.ok,g.ok.Cy⟩,g.rm.tE (i:=BS.HB b.head) (l':=b.AL++[BS.HB b.head]) Ax (λj hj=>by simpa using hj) (AI:(aTx:Ak).length<=1000)⟩
def vi(g:Gz b (n+7) o a)(ht:t.Sm)(hs:t.st HR):BA (b.HJ t).1/\Cd (b.HJ t).1 n:=by obtain⟨b1,d⟩:=yQ g;obtain⟨b2,c⟩:=ZT b1 d ht hs;unfold BS.HJ;exact⟨⟨b2.ok,b2.Cy⟩,c.II Gv⟩
def aMe(w:PB h bi b F)(g:Gz b (n+1005) o a)(ht:t.Sm)(hv:A8 t.Av av)(hs:t.st HR):Fe h F 74 [Pt bi 0,.agg (B2 t av),.func (.func 24) [] []] (.bool (b.HJ t).2) bi (b.HJ t).1:=by
 have B9:=w.B9;obtain⟨h1,x,p,w1,i⟩:=aDh w g (BS.HB b.head);obtain⟨b1,c⟩:=yQ (g.dn (n':=n+6+1) Ac);obtain⟨h2,v,r2,k,f⟩:=aHq w1 b1 c ht hv hs;obtain⟨r,q,u,m,j,d⟩:=ew k (ZT b1 c ht hs).2 b.head;refine⟨q,u,?_,j,(i.trans f).trans d⟩;have e:Ay (.BV [I 0,I 0,S [],ff] [(0,1),(1,1),(2,1)]) [I b.head,I 1,S aTx]=some (.agg (BS.HB b.head).row):=rfl;have s:∀l,Cz (.func (.func 24) [] []) l=some (24,l):=λl=>by simp[Cz]
 rw[Ae,qi,t74];simp only[Ci,B9,e,p.Ad,s,r2.Ad,m.Ad];rfl
def aHr(w:PB h bi b F)(g:Gz b (n+1005) o a)(ht:t.Sm)(hv:A8 t.Av av)(K:t.st [aTu]->Fe h F 27 [Pt bi 0,.agg (B2 t av)] ff bi (b.Jv t)):Fe h F 26 [Pt bi 0,.agg (B2 t av)] (.bool (b.Fk t).2) bi (b.Fk t).1:=by
 have B9:=w.B9;unfold BS.Fk;by_cases I:¬t.ok;.rw[Af I];have e:=Ji w t av;rw[Ai I] at e;refine⟨_,_,?_,w,.refl⟩;rw[Ae,Kt,tG];simp only[abS,↓reduceIte,e.Ad]
 rw[Ag I];have e:=Ji w t av;rw[Al (Ei.1 I)] at e;by_cases i:t.k=1;.rw[Af i];refine⟨_,_,?_,w,.refl⟩;rw[Ae,Kt,tG];simp only[abS,↓reduceIte,e.Ad,A6 i]
 rw[Ag i];by_cases H:t.st [aTx];.rw[Af H];have f:=EU I2 t av h;rw[Al H] at f;refine⟨_,_,?_,w,.refl⟩;rw[Ae,Kt,tG];simp only[abS,↓reduceIte,e.Ad,f.Ad,i]
 rw[Ag H];have f:=EU I2 t av h;rw[Ai H] at f;by_cases G:t.kI pU;.rw[Af G];have j:=XZ ZS t av h;rw[Al G] at j;refine⟨_,_,?_,w,.refl⟩;rw[Ae,Kt,tG];simp only[abS,↓reduceIte,e.Ad,f.Ad,j.Ad,i]
 rw[Ag G];have j:=XZ ZS t av h;rw[Ai G] at j;by_cases E:t.HA;.rw[Af E];have l:=Rm t av h;rw[Al E] at l;obtain⟨h1,v,c,w1,d⟩:=XU w (g.dn (n':=n+5) Ac) ht.r;refine⟨_,_,?_,w1,d⟩;rw[Ae,Kt,tG];simp only[abS,↓reduceIte,e.Ad,f.Ad,j.Ad,l.Ad,i,c.Ad]
 rw[Ag E];have l:=Rm t av h;rw[Ai E] at l;by_cases p:t.k=4;.rw[Af p];obtain⟨h1,v,c,w1,d⟩:=LG (s:=t.data) w (g.dn (n':=n+1) Ac) (by have:=ht.data;omega) 0;refine⟨_,_,?_,w1,d⟩;rw[Ae,Kt,tG];simp only[abS,↓reduceIte,e.Ad,f.Ad,j.Ad,l.Ad,i,A6 p,c.Ad]
 rw[Ag p];by_cases B:t.st [aTu];.rw[Af B];have m:=EU Ii t av h;rw[Al B] at m;obtain⟨h1,v,c,w1,d⟩:=K B;refine⟨_,_,?_,w1,d⟩;rw[Ae,Kt,tG];simp only[abS,↓reduceIte,e.Ad,f.Ad,j.Ad,l.Ad,m.Ad,i,p,c.Ad]
 rw[Ag B];have m:=EU Ii t av h;rw[Ai B] at m;by_cases D:t.st [aTy];.rw[Af D];have q:=EU kO t av h;rw[Al D] at q;obtain⟨h1,v,c,w1,d⟩:=ET w (g.dn (n':=n+4) Ac) ht hv;obtain⟨J,z,y⟩:=Kx w1 false;obtain⟨N,M,L⟩:=E9 z 7;refine⟨_,_,?_,M,(d.trans y).trans L⟩;rw[Ae,Kt,tG];simp only[abS,↓reduceIte,e.Ad,f.Ad,j.Ad,l.Ad,m.Ad,q.Ad,i,p,c.Ad,J,N]
 rw[Ag D];have q:=EU kO t av h;rw[Ai D] at q;by_cases C:t.st [aTD];.rw[Af C];have u:=EU SH t av h;rw[Al C] at u;obtain⟨h1,v,c,w1,d⟩:=ET w (g.dn (n':=n+4) Ac) ht hv;obtain⟨J,z,y⟩:=E9 w1 20;refine⟨_,_,?_,z,d.trans y⟩;rw[Ae,Kt,tG];simp only[abS,↓reduceIte,e.Ad,f.Ad,j.Ad,l.Ad,m.Ad,q.Ad,u.Ad,i,p,c.Ad,J]
 rw[Ag C];have u:=EU SH t av h;rw[Ai C] at u;by_cases A:t.st HR;.rw[Af A];have x:=EU Qh t av h;rw[Al A] at x;obtain⟨h1,v,c,w1,d⟩:=aMe w g ht hv A;refine⟨_,_,?_,w1,d⟩;rw[Ae,Kt,tG];simp only[abS,↓reduceIte,e.Ad,f.Ad,j.Ad,l.Ad,m.Ad,q.Ad,u.Ad,x.Ad,i,p,c.Ad]
 rw[Ag A];have x:=EU Qh t av h;rw[Ai A] at x;by_cases IS:t.en [Bb];.rw[Af IS];have YJ:=XY FE t av h;rw[Al IS] at YJ;obtain⟨h1,v,c,w1,d⟩:=eM w (g.dn (n':=n+1004) Ac) ht hv K;refine⟨_,_,?_,w1,d⟩;rw[Ae,Kt,tG];simp only[abS,↓reduceIte,e.Ad,f.Ad,j.Ad,l.Ad,m.Ad,q.Ad,u.Ad,x.Ad,YJ.Ad,i,p,c.Ad]
 rw[Ag IS];have YJ:=XY FE t av h;rw[Ai IS] at YJ;have rt:=u_ aTy h;obtain⟨h1,v,c,w1,d⟩:=ET (t:=Mm aTy) (av:= .slnil) w (g.dn (n':=n+4) Ac) (Iz AI) (.inr ⟨rfl,rfl⟩);obtain⟨h2,O,r2,z,y⟩:=pY w1 7;simp only[Mm] at rt c;refine⟨_,_,?_,z,d.trans y⟩;rw[Ae,Kt,tG];simp only[abS,↓reduceIte,e.Ad,f.Ad,j.Ad,l.Ad,m.Ad,q.Ad,u.Ad,x.Ad,YJ.Ad,i,p,rt.Ad,c.Ad,r2.Ad,BS.again]
def aHs(w:PB h bi b F)(g:Gz b (n+5) o a)(ht:t.Sm)(hv:A8 t.Av av):Fe h F 28 [Pt bi 0,.agg (B2 t av)] (.bool (b.MT t).2) bi (b.MT t).1:=by
 have B9:=w.B9;unfold BS.MT;by_cases m:¬t.ok;.rw[Af m];have d:=Ji w t av;rw[Ai m] at d;refine⟨_,_,?_,w,.refl⟩;rw[Ae,TE,t28];simp only[abS,↓reduceIte,d.Ad]
 rw[Ag m];have d:=Ji w t av;rw[Al (Ei.1 m)] at d;by_cases e:t.k=5;.rw[Af e];obtain⟨h1,u,i,w1,f⟩:=XU w (g.dn (n':=n+5) Ac) ht.r;refine⟨_,_,?_,w1,f⟩;rw[Ae,TE,t28];simp only[abS,↓reduceIte,d.Ad,A6 e,i.Ad]
 rw[Ag e];by_cases j:t.k=6
 .rw[Af j];obtain⟨h1,u,i,w1,f⟩:=OH w (g.dn (n':=n) Ac);have s:b.IQ.Nn=b.Nn:=by unfold BS.IQ;split<;>rfl
  have c:=w1.B9;rw[s] at c;obtain⟨h2,x,r2,q,p⟩:=pY w1 b.Nn;refine⟨_,_,?_,q,f.trans p⟩;rw[Ae,TE,t28];simp only[abS,↓reduceIte,d.Ad,e,A6 j,i.Ad,c,r2.Ad,BS.again]
 rw[Ag j];by_cases l:t.k=3
 .rw[Af l];obtain⟨h1,u,i,w1,f⟩:=OH w (g.dn (n':=n) Ac);have s:b.IQ.Nn=b.Nn:=by unfold BS.IQ;split<;>rfl
  have c:=w1.B9;rw[s] at c;obtain⟨v,q,p⟩:=E9 w1 b.Nn;refine⟨_,_,?_,q,f.trans p⟩;rw[Ae,TE,t28];simp only[abS,↓reduceIte,d.Ad,e,j,A6 l,i.Ad,c,v]
 rw[Ag l];refine⟨_,_,?_,w,.refl⟩;rw[Ae,TE,t28];simp only[abS,↓reduceIte,d.Ad,e,j,l]
end
structure SW(h:Ah)(bi:Nat)(b:BS)(F:Nat->Prop)(si:Nat)(t:DU)(av:Aa):Prop where
 pb:PB h bi b F
 sc:h[si]?=some (.cells (Pt bi 0::B2 t av))
 no:¬F si
section
variable{h h':Ah}{bi si:Nat}{b b':BS}{F F':Nat->Prop}{n o a:Nat}{t:DU}{av:Aa}
def SW.after(w:SW h bi b F si t av)(p:PB h' bi b' F')(x:Ew h F h' F'):SW h' bi b' F' si t av:=by
 have hl:=(Aj.1 w.sc).1;refine⟨p,by rw[x.old si hl w.no];exact w.sc,λhf=>?_⟩;rcases x.BM si hf with h1|h1
 .exact w.no h1
 .omega
def SW.B9(w:SW h bi b F si t av):Bi h none (Pt si 0)=some (Pt bi 0)/\Bi h (some 12) (Pt si 1)=some (.agg (B2 t av))/\Bi h none (Pt si 2)=some (.str t.name)/\Bi h none (Pt si 12)=some (.int .i32 t.r)/\Bi h none (Pt si 10)=some (.bool t.sc)/\Bi h none (Pt bi 1)=some (I b.Cy)/\Bi h none (Pt bi 4)=some (I b.mode)/\Bi h none (Pt bi 5)=some (I b.Nn)/\Bi h none (Pt bi 7)=some (I b.head)/\Bi h none (Pt bi 8)=some (I b.HQ)/\Bi h none (Pt bi 14)=some (.bool b.fs)/\Bi h none (Pt bi 18)=some (I b.sw)/\Bi h none (Pt bi 19)=some (.bool b.stop):=by refine⟨by simp only[Bi,w.sc];rfl,by simp only[Bi,w.sc];rfl,by simp only[Bi,w.sc];rfl,by simp only[Bi,w.sc];rfl,by simp only[Bi,w.sc];rfl,w.pb.B9⟩
def kQ{s:Ak}:Ay (.Cl 1) [.str s]=some (.sl 1 ([s].map Cc)):=Es (ws:=[s]) rfl Ax
def SI(w:SW h bi b F si t av)(g:Gz b n o a)(s:Ak):Ca cx 240 [Pt si 0,.str s] h (.bool (b.has [s])) h:=by have l0:=w.B9;have c:=SG w.pb g 1 (CO (ws:=[s])) Ax;rw[Ae,wS,aCh];simp only[abS,l0,kQ,c.Ad];rfl
def eO(w:SW h bi b F si t av)(g:Gz b n o a)(s ex:Ak):Fe h F 241 [Pt si 0,.str s,.str ex] (.tuple []) bi (b.EI s ex):=by have l0:=w.B9;obtain⟨_,h1,k,f,p1,d⟩:=LH w.pb g ex;have w1:=w.after p1 d;have l1:=w1.B9;obtain⟨_,h2,j,r2,p2,c⟩:=eI p1 (g.II Ct) (CO (ws:=[s])) Ax;have e:=w1.after p2 c;have i:=e.B9;refine⟨_,_,?_,p2,d.trans c⟩;rw[Ae,wT,aCi];simp only[abS,l0,f.Ad,l1,r2.Ad,kQ]
def vj(w:SW h bi b F si t av)(g:Gz b (n+4) o a)(ht:t.Sm)(hv:A8 t.Av av):Fe h F 155 [Pt si 0] (.tuple []) bi (b.block t):=by have l0:=w.B9;obtain⟨h1,k,f,p1,d⟩:=I1 w.pb g;have w1:=w.after p1 d;have l1:=w1.B9;obtain⟨h2,j,r2,p2,c⟩:=ET p1 g.CD ht hv;have e:=w1.after p2 c;have i:=e.B9;refine⟨_,_,?_,p2,d.trans c⟩;rw[Ae,uV,aBs];simp only[abS,l0,f.Ad,l1,r2.Ad]
def aMf(s:Ak):NW cx 238 [.str s] (.bool (decide (s∈Da))):=by
 rw[Tm,wQ,aCf];match s with
 |[]=>simp[Da]
 |[a]=>simp[Da]
 |[a,b]=>
  have e:decide ([a,b]∈Da)=decide (a.toNat=104/\49<=b.toNat/\b.toNat<=54):=by simp only[Da,AE,MW,wz,EE,Mb,<-UInt8.toNat_inj];have g:UInt8.toNat 104=104/\UInt8.toNat 49=49/\UInt8.toNat 50=50/\UInt8.toNat 51=51/\UInt8.toNat 52=52/\UInt8.toNat 53=53/\UInt8.toNat 54=54:=AI;simp only[g];rw[Dn];omega
  rw[e];have i1:((a.toNat:Int)=104)↔a.toNat=104:=Ac;have d:((49:Int)<=b.toNat)↔49<=b.toNat:=Ac;have i3:((b.toNat:Int)<=54)↔b.toNat<=54:=Ac;have i:((b.toNat:Int)<49)↔b.toNat<49:=Ac;simp[i1,d,i3];by_cases h1:a.toNat=104<;>by_cases h2:49<=b.toNat<;>by_cases f:b.toNat<=54<;>simp[h1,h2,f]<;>omega
 |a::b::c::l=>simp[Da];omega
def UG(i:Item):i.row=[I i.node,I i.A9,.str i.name,.bool i.Oz]:=rfl
def aMg(w:SW h bi b F si t av)(g:Gz b (n+4) o a)(ht:t.Sm)(hv:A8 t.Av av):Fe h F 156 [Pt si 0] (.tuple []) bi (b.Og t):=by
 have k:=(aMf (E4 b.CD.AL).name);unfold BS.Og;dsimp only;by_cases f:(E4 b.CD.AL).A9=1
 .by_cases l:(E4 b.CD.AL).name∈Da;.rw[show Bf Da (E4 b.CD.AL)=true by simp[Bf,f,l],Af rfl];rw[Al l] at k;have l0:=w.B9;obtain⟨h1,s,i,p1,d⟩:=I1 w.pb g;have w1:=w.after p1 d;have l1:=w1.B9;have j:=kN p1 g.CD;obtain⟨h2,r,r2,p2,c⟩:=OH p1 g.CD;have e:=w1.after p2 c;have m:=e.B9;obtain⟨x,y,v,q,p⟩:=ET p2 g.CD.IQ ht hv;have u:=e.after q p;have l3:=u.B9;refine⟨_,_,?_,q,(d.trans c).trans p⟩;rw[Ae,Vs,qv];simp only[abS,↓reduceIte,l0,i.Ad,l1,j.Ad,r2.Ad,m,v.Ad,UG,A6 f,k.BG rfl rfl]
  .rw[show Bf Da (E4 b.CD.AL)=false by simp[Bf,f,l],Ag Ax];rw[Ai l] at k;have l0:=w.B9;obtain⟨h1,s,i,p1,d⟩:=I1 w.pb g;have w1:=w.after p1 d;have l1:=w1.B9;have j:=kN p1 g.CD;obtain⟨h2,r,r2,p2,c⟩:=ET p1 g.CD ht hv;have e:=w1.after p2 c;have m:=e.B9;refine⟨_,_,?_,p2,d.trans c⟩;rw[Ae,Vs,qv];simp only[abS,↓reduceIte,l0,i.Ad,l1,j.Ad,r2.Ad,UG,A6 f,k.BG rfl rfl]
 .rw[show Bf Da (E4 b.CD.AL)=false by simp[Bf,f],Ag Ax];have l0:=w.B9;obtain⟨h1,s,i,p1,d⟩:=I1 w.pb g;have w1:=w.after p1 d;have l1:=w1.B9;have j:=kN p1 g.CD;obtain⟨h2,r,r2,p2,c⟩:=ET p1 g.CD ht hv;have e:=w1.after p2 c;have m:=e.B9;refine⟨_,_,?_,p2,d.trans c⟩;rw[Ae,Vs,qv];simp only[abS,↓reduceIte,l0,i.Ad,l1,j.Ad,r2.Ad,UG,f]
def aMh(w:SW h bi b F si t av)(g:Gz b (n+4) o a)(ht:t.Sm)(hv:A8 t.Av av):Fe h F 157 [Pt si 0] (.tuple []) bi (b.Ti t):=by have l0:=w.B9;obtain⟨h1,p,l,p1,e⟩:=vj w g ht hv;have w1:=w.after p1 e;have l1:=w1.B9;obtain⟨r2,p2,d⟩:=uy p1 true;have f:=w1.after p2 d;have m:=f.B9;obtain⟨k,i,c⟩:=Kx p2 false;have j:=f.after i c;have l3:=j.B9;refine⟨_,_,?_,i,(e.trans d).trans c⟩;rw[Ae,uW,aBt];simp only[abS,l.Ad,l1,r2,m,k]
def aMi(w:SW h bi b F si t av)(g:Gz b (n+4) o a)(ht:t.Sm)(hv:A8 t.Av av):Fe h F 169 [Pt si 0] (.tuple []) bi (b.XT t):=by
 unfold BS.XT;dsimp only;by_cases i:b.HQ=0
 .by_cases d:b.Xa;.rw[Ag (by simp[i]),Af d];have l0:=w.B9;have c:=Rn w.pb g;rw[Al d] at c;obtain⟨h1,r,k,p1,f⟩:=I1 w.pb g;have w1:=w.after p1 f;have l1:=w1.B9;obtain⟨h2,q,r2,p2,e⟩:=ET p1 g.CD ht hv;have j:=w1.after p2 e;have l:=j.B9;refine⟨_,_,?_,p2,f.trans e⟩;rw[Ae,So,db];simp only[abS,l0,c.Ad,k.Ad,l1,r2.Ad,l,A6 i,CA]
  .rw[Ag (by simp[i]),Ag d];have l0:=w.B9;have c:=Rn w.pb g;rw[Ai d] at c;obtain⟨h1,r,k,p1,f⟩:=I1 w.pb g;have w1:=w.after p1 f;have l1:=w1.B9;obtain⟨h2,q,r2,p2,e⟩:=ET p1 g.CD ht hv;have j:=w1.after p2 e;have l:=j.B9;obtain⟨u,p,m⟩:=eJ p2 (b.CD.No 1);have s:=j.after p m;have l3:=s.B9;refine⟨_,_,?_,p,(f.trans e).trans m⟩;rw[Ae,So,db];simp only[abS,l0,c.Ad,k.Ad,l1,r2.Ad,l,u,A6 i,CA]
 .by_cases d:b.Xa;.rw[Ag (by simp[d]),Af d];have l0:=w.B9;have c:=Rn w.pb g;rw[Al d] at c;obtain⟨h1,r,k,p1,f⟩:=I1 w.pb g;have w1:=w.after p1 f;have l1:=w1.B9;obtain⟨h2,q,r2,p2,e⟩:=ET p1 g.CD ht hv;have j:=w1.after p2 e;have l:=j.B9;refine⟨_,_,?_,p2,f.trans e⟩;rw[Ae,So,db];simp only[abS,l0,c.Ad,k.Ad,l1,r2.Ad,l,i,CA]
  .rw[Af ⟨i,d⟩];have l0:=w.B9;have c:=Rn w.pb g;rw[Ai d] at c;refine⟨_,_,?_,w.pb,.refl⟩;rw[Ae,So,db];simp only[abS,l0,c.Ad,i,CA]
def aMj(w:SW h bi b F si t av)(g:Gz b (n+4*a+4) o a)(ht:t.Sm)(hv:A8 t.Av av):Fe h F 170 [Pt si 0] (.tuple []) bi (b.TP t):=by
 unfold BS.TP;dsimp only;cases s:b.has [aTw] with
 |true=>have g1:Gz (b.EI aTw []) (n+4+4*a) o a:=g.EI.dn Ac;rw[Af rfl];have l0:=w.B9;have i:=SI w g aTw;rw[s] at i;obtain⟨h1,y,m,p1,e⟩:=eO w g aTw [];have w1:=w.after p1 e;have l1:=w1.B9;obtain⟨h2,x,r2,p2,d⟩:=CV p1 g1;have f:=w1.after p2 d;have p:=f.B9;obtain⟨z,A,l,j,c⟩:=ET p2 g1.Bg ht hv;have k:=f.after j c;have l3:=k.B9;obtain⟨v,r,q⟩:=Kx j false;have u:=k.after r q;have l4:=u.B9;refine⟨_,_,?_,r,((e.trans d).trans c).trans q⟩;rw[Ae,cQ,Á];simp only[abS,l0,i.Ad,m.Ad,l1,r2.Ad,p,l.Ad,l3,v]
 |false=>have g1:Gz b (n+4+4*a) o a:=g.dn Ac;rw[Ag Ax];have l0:=w.B9;have i:=SI w g aTw;rw[s] at i;obtain⟨h1,y,m,p1,e⟩:=CV w.pb g1;have w1:=w.after p1 e;have l1:=w1.B9;obtain⟨h2,x,r2,p2,d⟩:=ET p1 g1.Bg ht hv;have f:=w1.after p2 d;have p:=f.B9;obtain⟨l,j,c⟩:=Kx p2 false;have k:=f.after j c;have l3:=k.B9;refine⟨_,_,?_,j,(e.trans d).trans c⟩;rw[Ae,cQ,Á];simp only[abS,l0,i.Ad,m.Ad,l1,r2.Ad,p,l]
def aDo(w:SW h bi b F si t av)(g:Gz b (n+4*a+5) o a)(ht:t.Sm)(hv:A8 t.Av av):Fe h F 158 [Pt si 0] (.tuple []) bi (b.fmt t):=by have g1:Gz b (n+5+4*a) o a:=g.dn Ac;have l0:=w.B9;obtain⟨h1,k,f,p1,d⟩:=CV w.pb g1;have w1:=w.after p1 d;have l1:=w1.B9;obtain⟨h2,j,r2,p2,c⟩:=uq p1 g1.Bg ht hv;have e:=w1.after p2 c;have i:=e.B9;refine⟨_,_,?_,p2,d.trans c⟩;rw[Ae,uX,aBu];simp only[abS,l0,f.Ad,l1,r2.Ad]
def aDp(w:PB h bi b F)(g:Gz b n o a)(x:Int):∃r,Fe h F 245 [Pt bi 3,I x] r bi {b with AY:=BS.JW b.AY x}:=by
 obtain⟨i,f,c,tt,G,w,hc,rfl⟩:=w;have Vq:=g.rm.AY;have l3:=w.l3;obtain⟨fs,Jn,Qv⟩:=hc;have Im:fs.length=b.AY.length:=by rw[<-Jn,As]
 have d:=f41 w.lO Qv Ac x;rw[XC,Jn] at d;by_cases k:FC x b.AY<0
 .have e:BS.JW b.AY x=b.AY:=by unfold BS.JW;rw[Af k]
  refine⟨ff,h,BM bi G,?_,⟨i,f,c,tt,G,?_,⟨fs,?_,Qv⟩,rfl⟩,.refl⟩;.rw[Ae,dB,Í];simp only[abS,d.Ad,A6 k]
  .rw[e];exact w
  .rw[e];exact Jn
 .have hlt:(FC x b.AY).toNat<fs.length:=by obtain⟨p,hp,e,_⟩:=JT (n:=x) (l:=b.AY) Ac;omega
  obtain⟨u,r2,hu⟩:=aFX (h:=h) Qv hlt Ac;have he:((FC x b.AY).toNat:Int)=FC x b.AY:=Ac;rw[he] at r2;have w':=w.PD (u:=u) (l:=BS.JW b.AY x);have zG:Dj (BS.JW b.AY x) u:=⟨BB fs (FC x b.AY).toNat,by unfold BS.JW;rw[Ag k,<-Jn];unfold BB;simp[GO,K6],hu⟩;refine⟨.bool true,_,_,?_,⟨i,f,u,tt,G,w',zG,rfl⟩,BN⟩;rw[Ae,dB,Í];simp only[abS,d.Ad,k,l3,r2.Ad,w.st (k:=3) (v0:=c) rfl (EJ.cells hu)]
def aMk(w:SW h bi b F si t av)(g:Gz b (n+4*a+5) o a)(ht:t.Sm)(hv:A8 t.Av av):Fe h F 159 [Pt si 0] (.tuple []) bi (b.B0 t):=by have g1:Gz b (n+1+4+4*a) o a:=g.dn Ac;have l0:=w.B9;obtain⟨h1,y,r,p1,f⟩:=CV w.pb g1;have w1:=w.after p1 f;have l1:=w1.B9;obtain⟨h2,x,r2,p2,e⟩:=ET p1 g1.Bg ht hv;have j:=w1.after p2 e;have s:=j.B9;obtain⟨u,v,q,l,d⟩:=uw p2 (g1.Bg.Df ht);have i:=j.after l d;have l3:=i.B9;obtain⟨p,k,c⟩:=Kx l false;have m:=i.after k c;have l4:=m.B9;refine⟨_,_,?_,k,((f.trans e).trans d).trans c⟩;rw[Ae,uY,aBv];simp only[abS,l0,r.Ad,l1,r2.Ad,s,q.Ad,l3,p]
def aMl(w:SW h bi b F si t av)(g:Gz b (n+8*(4*(o+a+8)+10)+8*a+100) o a)(ht:t.Sm)(hv:A8 t.Av av):Fe h F 172 [Pt si 0] (.tuple []) bi (b.et t):=by
 have g0:Gz b (n+5+4*(a+8)+8*(4*(o+a+8)+10)+4*a) o a:=g.dn Ac;have g1:=g0.Bg;unfold BS.et;dsimp only;cases r:b.Bg.has [aTT] with
 |true=>simp only[BD];have l0:=w.B9;obtain⟨h1,y,i,p1,d⟩:=CV w.pb g0;have w1:=w.after p1 d;have l1:=w1.B9;have e:=SI w1 g1 aTT;rw[r] at e;obtain⟨h2,x,r2,p2,c⟩:=XW p1 g1 aTT;have f:=w1.after p2 c;have q:=f.B9;obtain⟨A,C,v,p,k⟩:=CV p2 g1.DN;have l:=f.after p k;have l3:=l.B9;obtain⟨z,B,u,m,j⟩:=uq p g1.DN.Bg ht hv;have s:=l.after m j;have l4:=s.B9;refine⟨_,_,?_,m,((d.trans c).trans k).trans j⟩;rw[Ae,cS,Ã];simp only[abS,l0,i.Ad,l1,e.Ad,r2.Ad,q,v.Ad,l3,u.Ad]
 |false=>simp only[Co,DO];have l0:=w.B9;obtain⟨h1,y,i,p1,d⟩:=CV w.pb g0;have w1:=w.after p1 d;have l1:=w1.B9;have e:=SI w1 g1 aTT;rw[r] at e;obtain⟨h2,x,r2,p2,c⟩:=uq p1 (g1.dn (n':=n+5) Ac) ht hv;have f:=w1.after p2 c;have q:=f.B9;refine⟨_,_,?_,p2,d.trans c⟩;rw[Ae,cS,Ã];simp only[abS,l0,i.Ad,l1,e.Ad,r2.Ad]
def aHu(w:PB h bi b F)(g:Gz b n o a):∃x r u,Bi h none (Pt bi 0)=some (Pt x 0)/\Ca cx 101 [Pt x 0,I b.Cy] h (.tuple [.agg r,I 0]) (h++u)/\r.length=13/\r.getD 10 .nilIface= .bool (b.a.nd b.Cy).CS:=by obtain⟨f,i,c,tt,G,w,hc,rfl⟩:=w;have l0:=w.l0;obtain⟨n',m',ps,e⟩:=w.w.pa;obtain⟨r,u,d,K,V,rfl,k,j⟩:=aCI (x:=b.Cy) e g.rm.UY (g.rm.UY.Bw g.ok.ok _);rw[Af g.ok.Cy.1] at d;exact⟨f,_,u,l0,d,rfl,rfl⟩
def aMm(w:SW h bi b F si t av)(g:Gz b (n+4) o a)(ht:t.Sm)(hv:A8 t.Av av):Fe h F 173 [Pt si 0] (.tuple []) bi (b.Rl t):=by
 obtain⟨x,r,u,lt,rn,Jz,LQ⟩:=aHu w.pb g;have v:=w.B9;have A:SW (h++u) bi b F si t av:=w.after w.pb.JL ⟨Ax,λi hi _=>An hi,λ_ hf=> .inl hf⟩;have z:Ew h F (h++u) F:=⟨Ax,λi hi _=>An hi,λ_ hf=> .inl hf⟩;have key:∀(w:SW (h++u) bi b F si t av),∃h' F',W cx (B7 cx 173 [Pt si 0]) (λx vs h1=>x= .ret/\vs=[.tuple []]/\h1=h') h/\PB h' bi (b.Rl t) F'/\Ew (h++u) F h' F':=by
  intro w;unfold BS.Rl;dsimp only;cases y:(b.a.nd b.Cy).CS with
  |true=>rw[y] at LQ;simp only[BD];have l0:=w.B9;obtain⟨h1,D,m,p1,e⟩:=ET w.pb g ht hv;have w1:=w.after p1 e;have l1:=w1.B9;obtain⟨r2,p2,d⟩:=Kx p1 false;have f:=w1.after p2 d;have p:=f.B9;obtain⟨l,j,c⟩:=E9 p2 9;have k:=f.after j c;have l3:=k.B9;refine⟨_,_,?_,j,(e.trans d).trans c⟩;rw[cT,Ä];simp only[abS,↓reduceIte,v,lt,rn.Ad,Jz,LQ,l0,m.Ad,l1,r2,p,l]
  |false=>rw[y] at LQ;simp only[Co,DO];have l0:=w.B9;obtain⟨h1,D,m,p1,e⟩:=I1 w.pb g;have w1:=w.after p1 e;have l1:=w1.B9;obtain⟨h2,E,r2,p2,d⟩:=ET p1 g.CD ht hv;have f:=w1.after p2 d;have p:=f.B9;obtain⟨l,j,c⟩:=Kx p2 false;have k:=f.after j c;have l3:=k.B9;obtain⟨C,s,q⟩:=E9 j 9;have B:=k.after s q;have l4:=B.B9;refine⟨_,_,?_,s,((e.trans d).trans c).trans q⟩;rw[cT,Ä];simp only[abS,↓reduceIte,v,lt,rn.Ad,Jz,LQ,l0,m.Ad,l1,r2.Ad,p,l,l3,C]
 obtain⟨h',F',r',p',x'⟩:=key A;exact⟨h',F',Ae.2 r',p',z.trans x'⟩
def vn(h:Ah)(F:Nat->Prop)(si:Nat)(f:FuncId)(args:List Aa)(r:Aa)(bi:Nat)(b':BS):Prop:=∃h' F',Ca cx f args h r h'/\PB h' bi b' F'/\Ew h (λi=>F i\/i=si) h' (λi=>F' i\/i=si)
def Ew.kR(x:Ew h F h' F'):Ew h (λi=>F i\/i=si) h' (λi=>F' i\/i=si):=
 ⟨x.len,λi hi hn=>x.old i hi λhf=>hn (.inl hf),λi hi=>by
  rcases hi with hi|hi
  .rcases x.BM i hi with h1|h1
   .exact .inl (.inl h1)
   .exact .inr h1
  .exact .inl (.inr hi)⟩
def Fe.JA{f:FuncId}{args:List Aa}{r:Aa}(d:Fe h F f args r bi b'):vn h F si f args r bi b':=by obtain⟨h1,g,e,p1,c⟩:=d;exact⟨h1,g,e,p1,c.kR⟩
def aDq(i:Item)(s:Ak)(h:Ah):Ca cx 242 [.agg i.row,.str s] h (.bool (Bf [s] i)) h:=by
 rw[Ae,wU,aCj];simp only[Ci,UG];refine⟨λh1=>?_,λh1=>?_⟩;.simp[Bf,h1]
 .simp[Bf,h1]
def vo(w:SW h bi b F si t av):Ca cx 243 [Pt si 0] h (.tuple [I (DK b.AL 1).node,.bool b.Ll]) h:=by
 have l0:=w.B9;have d:=ù w.pb 1;have r2:=XX w.pb;have c:=aDq (DK b.AL 1) aTy h;rw[UG] at d c;rw[Ae,wV,aCk];simp only[abS,l0,d.Ad,r2.Ad,c.Ad];refine⟨λh1=>?_,λh1=>?_⟩
 .have:2<=b.AL.length:=by omega
  simp[BS.Ll,this]
 .have:¬2<=b.AL.length:=by omega
  simp[BS.Ll,this]
def aDr:J9 aVg wDD:=MD D8
def aDs:J9 [108,105] [[108,105]]:=MD D8
def yR:J9 aUH YI:=MD D8
def aDt:J9 aTG Da:=MD D8
def aMn(w:SW h bi b F si t av)(g:Gz b (n+4) o a)(ht:t.Sm)(hv:A8 t.Av av):Fe h F 165 [Pt si 0] (.tuple []) bi (b.pV t):=by
 have ho:=g.rm.AL;obtain⟨D,p1,z⟩:=Kx w.pb false;have w1:=w.after p1 z;have l0:=w.B9;have l1:=w1.B9;have g1:Gz {b with fs:=false} (n+4) o a:=g.eq rfl rfl rfl rfl rfl;have ln:=XX w1.pb;have Pb:Ev cx 165 [Pt si 0] h λr h'=>r= .tuple []/\∃F',PB h' bi (b.pV t) F'/\Ew h F h' F':=by
  unfold Ev BS.pV;generalize{b with fs:=false}=c at*;rw[u0,aBx];have e0:(c.AL.length:Int)<=900000000:=by have:=g1.rm.AL;omega
  by_cases y:t.name=[108,105]
  .obtain⟨ws,xg⟩:∃ws,ws=(if t.name=[108,105] then[[108,105]] else wDD):=⟨_,rfl⟩;have hw:J9 [108,105] ws:=by rw[xg,Af y];exact aDs
   rw[<-xg];clear xg;simp only[abS,l0,l1,D,A6 y,CA,ln.Ad,DJ (Ac: -9223372036854775808<=(c.AL.length:Int)-1) (Ac:(c.AL.length:Int)-1<9223372036854775808)];generalize put h bi 14 ff=hs at*;refine Ex (i:=0) (λn:Nat=>[I ((n:Int)-1)]) (λn h1=>n<=c.AL.length/\c.AL.reverse.find? (BS.Jh ws)=(c.AL.take n).reverse.find? (BS.Jh ws)/\h1=hs) (λn=>n) (λn h1=>∃F',PB h1 bi (c.I0 ws) F'/\Ew hs F h1 F') c.AL.length rfl ⟨Ab _,by rw[BZ],rfl⟩ ?_ ?_
   .rintro n h1 ⟨hn,ha,rfl⟩;cases n with
    |zero=>
     have e:c.I0 ws=c:=by unfold BS.I0;rw[ha];rfl
     simp only[abS,(Ac:¬(0:Int)<=((0:Nat):Int)-1)];exact .ID 0 rfl ⟨F,by rw[e];exact w1.pb,.refl⟩
    |succ n=>
     have hlt:n<c.AL.length:=Ac;have i1:((n+1:Nat):Int)-1=(n:Int):=Ac;have r2:=ù w1.pb (n:Int);rw[HI hlt] at r2;rw[Sx hlt,Hs] at ha;generalize hi:c.AL[n]=i at*;rw[UG] at r2;have k:=pX hw i.name;have l:=pX yR i.name;have f:=Ö i.A9 i.name;have sub:=DJ (Ac: -9223372036854775808<=(n:Int)-1) (Ac:(n:Int)-1<9223372036854775808);by_cases p:Bf ws i=true
     .have d:i.A9=1/\i.name∈ws:=by simpa[Bf] using p
      rw[Al d.2] at k;obtain⟨h2,x,s,u,q⟩:=eO w1 g1 i.name i.name;have e:c.I0 ws=c.EI i.name i.name:=by unfold BS.I0;rw[ha];simp[BS.Jh,p]
      simp only[abS,↓reduceIte,l1,i1,(Ac:(0:Int)<=(n:Int)),r2.Ad,A6 d.1,k.BG rfl rfl,s.Ad];exact .ID (n+1) (by rw[i1]) ⟨x,by rw[e];exact u,q⟩
     .have uj:Bf ws i=false:=by simpa using p
      have B:BS.Jh ws i=(Dp i&& !(Bf YI i)):=by simp[BS.Jh,uj]
      rw[B] at ha;have stop:Dp i=true->Bf YI i=false->c.I0 ws=c:=λh1 h2=>by unfold BS.I0;rw[ha,h1,h2];simp[uj]
      have go:(Dp i&& !(Bf YI i))=false->c.AL.reverse.find? (BS.Jh ws)=(c.AL.take n).reverse.find? (BS.Jh ws):=λh1=>by rw[ha,h1]
      by_cases d:i.A9=1
      .have A:i.name∉ws:=λh=>p (by simp[Bf,d,h]);rw[Ai A] at k;by_cases j:Dp i=true
       .have YK:D7 i.A9 i.name=true:=j;rw[YK] at f;by_cases m:i.name∈YI;.rw[Al m] at l;simp only[abS,↓reduceIte,l1,i1,(Ac:(0:Int)<=(n:Int)),r2.Ad,A6 d,k.BG rfl rfl,l.BG rfl rfl,f.BG rfl rfl,sub];exact .next n rfl ⟨Ac,go (by simp[Bf,d,m]),rfl⟩ Ac
        .rw[Ai m] at l;simp only[abS,↓reduceIte,l1,i1,(Ac:(0:Int)<=(n:Int)),r2.Ad,A6 d,k.BG rfl rfl,l.BG rfl rfl,f.BG rfl rfl,sub];exact .ID (n+1) (by rw[i1]) ⟨F,by rw[stop j (by simp[Bf,m])];exact w1.pb,.refl⟩
       .have YK:D7 i.A9 i.name=false:=by simpa[Dp] using j
        rw[YK] at f;simp only[abS,↓reduceIte,l1,i1,(Ac:(0:Int)<=(n:Int)),r2.Ad,A6 d,k.BG rfl rfl,f.BG rfl rfl,sub];exact .next n rfl ⟨Ac,go (by simp[show Dp i=false from YK]),rfl⟩ Ac
      .by_cases j:Dp i=true;.have YK:D7 i.A9 i.name=true:=j;rw[YK] at f;simp only[abS,↓reduceIte,l1,i1,(Ac:(0:Int)<=(n:Int)),r2.Ad,d,f.BG rfl rfl,sub];exact .ID (n+1) (by rw[i1]) ⟨F,by rw[stop j (by simp[Bf,d])];exact w1.pb,.refl⟩
       .have YK:D7 i.A9 i.name=false:=by simpa[Dp] using j
        rw[YK] at f;simp only[abS,↓reduceIte,l1,i1,(Ac:(0:Int)<=(n:Int)),r2.Ad,d,f.BG rfl rfl,sub];exact .next n rfl ⟨Ac,go (by simp[show Dp i=false from YK]),rfl⟩ Ac
   .rintro n h1 ⟨x,p2,v⟩;obtain⟨E,C,s,u,q⟩:=vj (w1.after p2 v) g1.I0 ht hv;simp only[Ci,s.Ad];exact⟨_,rfl,rfl,C,u,(z.trans v).trans q⟩
  .obtain⟨ws,xg⟩:∃ws,ws=(if t.name=[108,105] then[[108,105]] else wDD):=⟨_,rfl⟩;have hw:J9 aVg ws:=by rw[xg,Ag y];exact aDr
   rw[<-xg];clear xg;simp only[abS,l0,l1,D,y,CA,ln.Ad,DJ (Ac: -9223372036854775808<=(c.AL.length:Int)-1) (Ac:(c.AL.length:Int)-1<9223372036854775808)];generalize put h bi 14 ff=hs at*;refine Ex (i:=0) (λn:Nat=>[I ((n:Int)-1)]) (λn h1=>n<=c.AL.length/\c.AL.reverse.find? (BS.Jh ws)=(c.AL.take n).reverse.find? (BS.Jh ws)/\h1=hs) (λn=>n) (λn h1=>∃F',PB h1 bi (c.I0 ws) F'/\Ew hs F h1 F') c.AL.length rfl ⟨Ab _,by rw[BZ],rfl⟩ ?_ ?_
   .rintro n h1 ⟨hn,ha,rfl⟩;cases n with
    |zero=>
     have e:c.I0 ws=c:=by unfold BS.I0;rw[ha];rfl
     simp only[abS,(Ac:¬(0:Int)<=((0:Nat):Int)-1)];exact .ID 0 rfl ⟨F,by rw[e];exact w1.pb,.refl⟩
    |succ n=>
     have hlt:n<c.AL.length:=Ac;have i1:((n+1:Nat):Int)-1=(n:Int):=Ac;have r2:=ù w1.pb (n:Int);rw[HI hlt] at r2;rw[Sx hlt,Hs] at ha;generalize hi:c.AL[n]=i at*;rw[UG] at r2;have k:=pX hw i.name;have l:=pX yR i.name;have f:=Ö i.A9 i.name;have sub:=DJ (Ac: -9223372036854775808<=(n:Int)-1) (Ac:(n:Int)-1<9223372036854775808);by_cases p:Bf ws i=true
     .have d:i.A9=1/\i.name∈ws:=by simpa[Bf] using p
      rw[Al d.2] at k;obtain⟨h2,x,s,u,q⟩:=eO w1 g1 i.name i.name;have e:c.I0 ws=c.EI i.name i.name:=by unfold BS.I0;rw[ha];simp[BS.Jh,p]
      simp only[abS,↓reduceIte,l1,i1,(Ac:(0:Int)<=(n:Int)),r2.Ad,A6 d.1,k.BG rfl rfl,s.Ad];exact .ID (n+1) (by rw[i1]) ⟨x,by rw[e];exact u,q⟩
     .have uj:Bf ws i=false:=by simpa using p
      have B:BS.Jh ws i=(Dp i&& !(Bf YI i)):=by simp[BS.Jh,uj]
      rw[B] at ha;have stop:Dp i=true->Bf YI i=false->c.I0 ws=c:=λh1 h2=>by unfold BS.I0;rw[ha,h1,h2];simp[uj]
      have go:(Dp i&& !(Bf YI i))=false->c.AL.reverse.find? (BS.Jh ws)=(c.AL.take n).reverse.find? (BS.Jh ws):=λh1=>by rw[ha,h1]
      by_cases d:i.A9=1
      .have A:i.name∉ws:=λh=>p (by simp[Bf,d,h]);rw[Ai A] at k;by_cases j:Dp i=true
       .have YK:D7 i.A9 i.name=true:=j;rw[YK] at f;by_cases m:i.name∈YI;.rw[Al m] at l;simp only[abS,↓reduceIte,l1,i1,(Ac:(0:Int)<=(n:Int)),r2.Ad,A6 d,k.BG rfl rfl,l.BG rfl rfl,f.BG rfl rfl,sub];exact .next n rfl ⟨Ac,go (by simp[Bf,d,m]),rfl⟩ Ac
        .rw[Ai m] at l;simp only[abS,↓reduceIte,l1,i1,(Ac:(0:Int)<=(n:Int)),r2.Ad,A6 d,k.BG rfl rfl,l.BG rfl rfl,f.BG rfl rfl,sub];exact .ID (n+1) (by rw[i1]) ⟨F,by rw[stop j (by simp[Bf,m])];exact w1.pb,.refl⟩
       .have YK:D7 i.A9 i.name=false:=by simpa[Dp] using j
        rw[YK] at f;simp only[abS,↓reduceIte,l1,i1,(Ac:(0:Int)<=(n:Int)),r2.Ad,A6 d,k.BG rfl rfl,f.BG rfl rfl,sub];exact .next n rfl ⟨Ac,go (by simp[show Dp i=false from YK]),rfl⟩ Ac
      .by_cases j:Dp i=true;.have YK:D7 i.A9 i.name=true:=j;rw[YK] at f;simp only[abS,↓reduceIte,l1,i1,(Ac:(0:Int)<=(n:Int)),r2.Ad,d,f.BG rfl rfl,sub];exact .ID (n+1) (by rw[i1]) ⟨F,by rw[stop j (by simp[Bf,d])];exact w1.pb,.refl⟩
       .have YK:D7 i.A9 i.name=false:=by simpa[Dp] using j
        rw[YK] at f;simp only[abS,↓reduceIte,l1,i1,(Ac:(0:Int)<=(n:Int)),r2.Ad,d,f.BG rfl rfl,sub];exact .next n rfl ⟨Ac,go (by simp[show Dp i=false from YK]),rfl⟩ Ac
   .rintro n h1 ⟨x,p2,v⟩;obtain⟨E,C,s,u,q⟩:=vj (w1.after p2 v) g1.I0 ht hv;simp only[Ci,s.Ad];exact⟨_,rfl,rfl,C,u,(z.trans v).trans q⟩
 obtain⟨r,h',hr,rfl,F',p',x'⟩:=Pb.ret;exact⟨h',F',hr,p',x'⟩
def aDu(w:PB h bi b F)(g:Gz b n o a)(nm:Ak):Ca cx 209 [Pt bi 3,.str nm] h (I (Fj nm b.AY)) h/\(0<=Fj nm b.AY->∃v p,Bi h none (Pt bi 3)=some v/\Ay (.FH 3) [v,I (Fj nm b.AY)]=some p/\∃q,Ay (.Fg 0) [p]=some q/\Bi h none q=some (I (b.AY.getD (Fj nm b.AY).toNat Cp.zero).node)):=by
 obtain⟨j,i,c,tt,G,w,hc,rfl⟩:=w;have Vq:=g.rm.AY;obtain⟨fs,Jn,Qv⟩:=hc;have Im:fs.length=b.AY.length:=by rw[<-Jn,As]
 have d:=aFT w.lO Qv Ac nm;rw[xV,Jn] at d;refine⟨d,λh0=>?_⟩;obtain⟨k,e,f⟩:=XK h0;rw[f,BH];have hk:k<fs.length:=Ac;have ea:=Bz.Dh (k:= .i64) Qv hk;have hg:b.AY.getD k Cp.zero=fs[k].c:=by rw[AP,<-Jn,Cg,Au hk];rfl
 exact⟨c,_,w.l3,ea,_,rfl,by rw[hg];rfl⟩
def aMo(w:SW h bi b F si t av)(g:Gz b (n+8*(4*(o+8)+10)+4*(a+8)+5) o a)(ht:t.Sm)(hv:A8 t.Av av):Fe h F 171 [Pt si 0] (.tuple []) bi (b.eo t):=by
 obtain⟨l,A⟩:=aDu w.pb g [97];unfold BS.eo BS.ZR;dsimp only;by_cases r:Fj [97] b.AY<0;.rw[Af r];have l0:=w.B9;obtain⟨h1,G,e,p1,c⟩:=aDo w (g.dn (n':=n+4*a+5) Ac) ht hv;have w1:=w.after p1 c;have l1:=w1.B9;refine⟨_,_,?_,p1,c⟩;rw[Ae,cR,Â];simp only[Ci,Nat.reduceLeDiff,↓reduceIte,Bv,bK,l0,e.Ad,l1,l.Ad,(Ac:¬(0:Int)<=Fj [97] b.AY)]
 .rw[Ag r];obtain⟨v,p,E,D,q,C,B⟩:=A Ac;have g0:Gz b (n+4*(a+8)+5+8*(4*(o+8)+10)) o a:=g.dn Ac;generalize(b.AY.getD (Fj [97] b.AY).toNat Cp.zero).node=nd at*;have l0:=w.B9;obtain⟨h1,G,e,p1,c⟩:=XW w.pb g0 [97];have w1:=w.after p1 c;have l1:=w1.B9;obtain⟨_,h2,L,r2,p2,j⟩:=aDp p1 g0.DN nd;have k:=w1.after p2 j;have z:=k.B9;obtain⟨_,I,K,x,y,i⟩:=kL p2 (g0.DN.sub (lo:=(b.DN [97]).AL) (lc:=BS.JW (b.DN [97]).AY nd) (lt:=(b.DN [97]).tm) (AD _) PJ (Ab _)) nd;have d:=k.after y i;have l3:=d.B9;obtain⟨H,J,u,m,f⟩:=aDo d (g0.DN.sub (lo:=Di nd (b.DN [97]).AL) (lc:=BS.JW (b.DN [97]).AY nd) (lt:=(b.DN [97]).tm) Gv PJ (Ab _)) ht hv;have s:=d.after m f;have l4:=s.B9;refine⟨_,_,?_,m,((c.trans j).trans i).trans f⟩;rw[Ae,cR,Â];simp only[Ci,Nat.reduceLeDiff,↓reduceIte,Bv,bK,l0,e.Ad,l1,r2.Ad,z,x.Ad,l3,u.Ad,l4,l.Ad,(Ac:(0:Int)<=Fj [97] b.AY),E,D,C,B]
def kS{x:A7}{l:List A7}:BS.PH (x::l)=if x.name=aUz then decide (EH x.value=aUn) else BS.PH l:=by
 unfold BS.PH;rw[Hs];by_cases h:x.name=aUz;.simp[h]
 .simp[h]
def aMp(ht:t.Sm)(hv:A8 t.Av av)(h:Ah):Ca cx 239 [.agg (B2 t av)] h (.bool (BS.PH t.Av)) h:=by
 have zm:AK=140737488355328:=rfl;have Gc:Bz 3 (t.Av.map A7.row) av:=hv;have e:=Bz.Ha Gc;have hb:=ht.Av.1;have hcl:EH aUn=aUn:=Pn AI;rw[Ae,wR,aCg];simp only[Ci,e];refine B1 (λn:Nat=>[ff,I (n:Int)]) (λn h1=>n<=t.Av.length/\h1=h/\BS.PH t.Av=BS.PH (t.Av.drop n)) (λn=>t.Av.length-n) 0 rfl ⟨Bd _,rfl,rfl⟩ ?_;rintro n h1 ⟨hn,rfl,ha⟩;rcases Bk n t.Av.length with hlt|Hh
 .have d:=Bz.Dh (k:= .i64) Gc hlt;have Qk:=(ht.Av.2 _ (A5 hlt)).2;have c:=sd t.Av[n].value aUn Ac AI;rw[hcl] at c;rw[Az hlt,kS] at ha;rw[A7.row] at d;simp only[abS,Nat.reduceLeDiff,↓reduceIte,(Ac:(n:Int)<(t.Av.length:Int)),d,c.BG rfl rfl,CR (Ac:n<9223372036854775807)];refine⟨λh2=>?_,λh2=>?_⟩;.rw[ha,Af h2]
  .rw[Ag h2] at ha;exact By.next (n+1) rfl ⟨hlt,rfl,ha⟩ Ac
 .rw[AT Hh] at ha;simp only[abS,(Ac:¬(n:Int)<(t.Av.length:Int)),ha];rfl
def SW.û(w:SW h bi b F si t av)(nm:Ak):CH h 1 (Pt si 2) (.str nm)=some (put h si 2 (.str nm))/\SW (put h si 2 (.str nm)) bi b F si {t with name:=nm} av/\Ew h (λi=>F i\/i=si) (put h si 2 (.str nm)) (λi=>F i\/i=si):=by have hs:At h si 2 (.str t.name):=⟨_,w.sc,rfl⟩;refine⟨hs.store (u:= .str nm) rfl,⟨w.pb.DT λi hi=>CU λe=>w.no (e▸hi),?_,w.no⟩,⟨by rw[Ls];exact Ab _,λi _ hn=>CU λe=>hn (.inr e),λ_ h=> .inl h⟩⟩;rw[Ju w.sc];rfl
def aHv(w:SW h bi b F si t av)(g:Gz b (n+4*a+4) o a)(ht:t.Sm)(hv:A8 t.Av av):vn h F si 160 [Pt si 0] (.tuple []) bi (b.empty t):=by
 have z:Gz b (n+4) o a:=g.dn Ac;have g1:Gz b (n+4+4*a) o a:=g.dn Ac;unfold BS.empty;by_cases m:t.name=[104,114];.rw[Af m];refine Fe.JA ?_;have l0:=w.B9;obtain⟨h1,s,k,p1,d⟩:=I1 w.pb z;have w1:=w.after p1 d;have l1:=w1.B9;obtain⟨h2,x,r2,p2,c⟩:=pZ p1 z.CD ht hv;have f:=w1.after p2 c;have l:=f.B9;obtain⟨q,j,i⟩:=Kx p2 false;have p:=f.after j i;have l3:=p.B9;refine⟨_,_,?_,j,(d.trans c).trans i⟩;rw[Ae,Lx,YA];simp only[abS,l0,k.Ad,l1,r2.Ad,l,q,A6 m]
 rw[Ag m];by_cases e:t.name∈ö
 .rw[Af e];refine Fe.JA ?_;have l0:=w.B9;obtain⟨h1,s,k,p1,d⟩:=pZ w.pb z ht hv;have w1:=w.after p1 d;have l1:=w1.B9;obtain⟨r2,p2,c⟩:=Kx p1 b.fs;have f:=w1.after p2 c;have l:=f.B9;simp only[ö,AE,MW,wz] at e;by_cases v:t.name=aU3
  .skip
   refine⟨_,_,?_,p2,d.trans c⟩;rw[Ae,Lx,YA];simp only[abS,l0,k.Ad,l1,r2,m,A6 v]
  by_cases y:t.name=aUK;.refine⟨_,_,?_,p2,d.trans c⟩;rw[Ae,Lx,YA];simp only[abS,l0,k.Ad,l1,r2,m,v,A6 y]
  .have D:t.name=aU4:=by simpa[v,y] using e
   refine⟨_,_,?_,p2,d.trans c⟩;rw[Ae,Lx,YA];simp only[abS,l0,k.Ad,l1,r2,m,v,y,A6 D]
 rw[Ag e];simp only[ö,AE,MW,wz,PL] at e;by_cases r:t.name=aUT
 .rw[Af r];refine Fe.JA ?_;cases kf:b.fs with
  |true=>have l0:=w.B9;obtain⟨h1,s,k,p1,d⟩:=CV w.pb g1;have w1:=w.after p1 d;have l1:=w1.B9;have B:=aMp ht hv h1;obtain⟨h2,x,r2,p2,c⟩:=pZ p1 g1.Bg ht hv;have f:=w1.after p2 c;have l:=f.B9;obtain⟨q,j,i⟩:=Kx p2 (BS.PH t.Av);have p:=f.after j i;have l3:=p.B9;rw[kf] at l0;refine⟨_,_,?_,j,(d.trans c).trans i⟩;rw[Ae,Lx,YA];simp only[abS,l0,k.Ad,l1,B.Ad,r2.Ad,l,q,m,e.1,e.2.1,e.2.2,A6 r]
  |false=>have l0:=w.B9;obtain⟨h1,s,k,p1,d⟩:=CV w.pb g1;have w1:=w.after p1 d;have l1:=w1.B9;obtain⟨h2,x,r2,p2,c⟩:=pZ p1 g1.Bg ht hv;have f:=w1.after p2 c;have l:=f.B9;obtain⟨q,j,i⟩:=Kx p2 false;have p:=f.after j i;have l3:=p.B9;rw[kf] at l0;refine⟨_,_,?_,j,(d.trans c).trans i⟩;rw[Ae,Lx,YA];simp only[abS,l0,k.Ad,l1,r2.Ad,l,q,m,e.1,e.2.1,e.2.2,A6 r]
 rw[Ag r];by_cases u:t.name=aUX;.rw[Af u];have C:=w.B9;obtain⟨s0,w,A⟩:=w.û aU9;have Ir:({t with name:=aU9}:DU).Sm:=ht.rn AI;have l0:=w.B9;obtain⟨h1,s,k,p1,d⟩:=CV w.pb g1;have w1:=w.after p1 d;have l1:=w1.B9;obtain⟨h2,x,r2,p2,c⟩:=pZ p1 g1.Bg Ir hv;have f:=w1.after p2 c;have l:=f.B9;obtain⟨q,j,i⟩:=Kx p2 false;have p:=f.after j i;have l3:=p.B9;refine⟨_,_,?_,j,A.trans ((d.trans c).trans i).kR⟩;rw[Ae,Lx,YA];simp only[abS,C,m,e.1,e.2.1,e.2.2,r,A6 u,s0,l0,k.Ad,l1,r2.Ad,l,q]
 .rw[Ag u];refine Fe.JA ?_;have l0:=w.B9;obtain⟨h1,s,k,p1,d⟩:=CV w.pb g1;have w1:=w.after p1 d;have l1:=w1.B9;obtain⟨h2,x,r2,p2,c⟩:=pZ p1 g1.Bg ht hv;have f:=w1.after p2 c;have l:=f.B9;obtain⟨q,j,i⟩:=Kx p2 false;have p:=f.after j i;have l3:=p.B9;refine⟨_,_,?_,j,(d.trans c).trans i⟩;rw[Ae,Lx,YA];simp only[abS,l0,k.Ad,l1,r2.Ad,l,q,m,e.1,e.2.1,e.2.2,r,u]
end
end Go.Am
end
