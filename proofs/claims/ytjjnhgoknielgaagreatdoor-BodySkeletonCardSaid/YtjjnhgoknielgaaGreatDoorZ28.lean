/- Lemmas -/
import Derived.Test.YtjjnhgoknielgaaGreatDoorZ25
import Derived.Test.YtjjnhgoknielgaaGreatDoorZ27
set_option linter.all false
noncomputable section
set_option maxRecDepth 100000
section
namespace Go.Am
open Go
structure DF where
 k:Int
 name:Ah
 hn:Bool
 KB:Ah
 hp:Bool
 sys:Ah
 hs:Bool
 q:Bool
 As:List Be
 sc:Bool
 data:Ah
 r:Int
namespace DF
def ok(t:DF):Prop:=1<=t.k/\t.k<=6
instance(t:DF):Decidable t.ok:=by unfold ok;infer_instance
def st(t:DF)(ws:List Ah):Prop:=t.k=2/\t.name∈ws
instance(t:DF)(ws:List Ah):Decidable (t.st ws):=by unfold st;infer_instance
def en(t:DF)(ws:List Ah):Prop:=t.k=3/\t.name∈ws
instance(t:DF)(ws:List Ah):Decidable (t.en ws):=by unfold en;infer_instance
def lL(t:DF)(ws:List Ah):Prop:=t.k=3/\t.name∉ws
instance(t:DF)(ws:List Ah):Decidable (t.lL ws):=by unfold lL;infer_instance
end DF
def u_(r:Int):Prop:=(9<=r/\r<=10)\/(12<=r/\r<=13)\/r=32
instance(r:Int):Decidable (u_ r):=by unfold u_;infer_instance
namespace DF
def JE(t:DF):Prop:=t.k=5/\u_ t.r
instance(t:DF):Decidable t.JE:=by unfold JE;infer_instance
end DF
def JV(nm:Ah):DF:=⟨2,nm,false,[],false,[],false,false,[],false,[],0⟩
def eHB:List Ah:=[aWy,aWz,aWu,[98,114]]
def iv:List Ah:=[aWy,aWw,aWz,aWu,[98,114]]
def uW:List Ah:=[aWw,aWz,aWu,[98,114]]
def eNo:List Ah:=[aWF,[98,114]]
def VO:List Ah:=[[98,97,115,101],aXQ,aXX,aYx,[109,101,116,97]]
def sNS:List Ah:=[aXv,aXY]
def û:List Ah:=[aXQ,aXX,aYx,[109,101,116,97],aXv,aXY]
def sHN:List Ah:=[aWy,aWF]
def F6:List Ah:=[[98,97,115,101],aXQ,aXX,aYx,[109,101,116,97],aXv,aW7,aXY,aWw,aWO]
def sT1:List Ah:=[aWV,aW3,aXi,aXf,aXj]
def sTd:List Ah:=[[116,100],[116,104]]
def jR:List Ah:=[aXZ,[97,114,116,105,99,108,101],[97,115,105,100,101],aX3,[99,101,110,116,101,114],[100,101,116,97,105,108,115],[100,105,97,108,111,103],[100,105,114],[100,105,118],[100,108],aYc,aX4,[102,105,103,117,114,101],[102,111,111,116,101,114],[104,101,97,100,101,114],[104,103,114,111,117,112],[109,97,105,110],[109,101,110,117],[110,97,118],[111,108],[112],[115,101,97,114,99,104],[115,101,99,116,105,111,110],[115,117,109,109,97,114,121],[117,108]]
def aA4:List Ah:=[[112,114,101],[108,105,115,116,105,110,103]]
def rj:List Ah:=[[98],[98,105,103],[99,111,100,101],[101,109],aYt,[105],[115],aYk,aX8,aX9,[116,116],[117]]
def Wt:List Ah:=[aXN,aXE,aXR]
def jS:List Ah:=[[97,114,101,97],[98,114],[101,109,98,101,100],aYd,aX1,[107,101,121,103,101,110],[119,98,114],aXW,aX6,aXO,aX7,[104,114]]
def iw:List Ah:=[aWV,aXV,aW3,[102,114,97,109,101],aWy,aXi,[116,100],aXf,[116,104],aXj,[116,114]]
def o9:List Ah:=[aXp,aYe,aXC,[110,111,101,109,98,101,100],aW8]
def ix:List Ah:=[[114,98],aXM,[114,112],[114,116]]
def aA5:List Ah:=[aXn,[115,118,103]]
def iy:List Ah:=[[108,105],[100,100],[100,116]]
def aA6:List Ah:=[aXb,aWH]
def QW:List Ah:=[aWu,aWz]
def QX:List Ah:=[aXZ,[97,114,116,105,99,108,101],[97,115,105,100,101],aX3,aWx,[99,101,110,116,101,114],[100,101,116,97,105,108,115],[100,105,97,108,111,103],[100,105,114],[100,105,118],[100,108],aYc,aX4,[102,105,103,117,114,101],[102,111,111,116,101,114],[104,101,97,100,101,114],[104,103,114,111,117,112],[108,105,115,116,105,110,103],[109,97,105,110],[109,101,110,117],[110,97,118],[111,108],[112,114,101],[115,101,97,114,99,104],[115,101,99,116,105,111,110],[115,117,109,109,97,114,121],[117,108]]
def ü:List Ah:=[[97],[98],[98,105,103],[99,111,100,101],[101,109],aYt,[105],aWT,[115],aYk,aX8,aX9,[116,116],[117]]
def Y9:List Ah:=[[112],[108,105],[100,100],[100,116]]
def aF:List Ah:=[aXZ,[100,105,118],[112]]
def wDD:List Ah:=[[100,100],[100,116]]
def aA7:List Ah:=[aX6,aXO,aX7]
namespace BS
def CU(b:BS)(t:DF):BS:=b.Cu t.name t.As 1
def GF(b:BS)(t:DF):BS:=(b.CU t).FY
def PL(b:BS):BS:={b with a:=b.a.set b.BM {b.a.nd b.BM with DW:=true}}
def Nn(b:BS)(t:DF):BS:={b with a:=(b.a.add {kind:=3,BM:=b.BM,name:=t.name,KB:=t.KB,sys:=t.sys}).GC b.BM (b.a.len+1) 0}
def again(b:BS)(m:Int):BS×Bool:=({b with mode:=m},true)
def Of(b:BS):Prop:=0<=AD (AG [AT]) b.Au
instance(b:BS):Decidable b.Of:=by unfold Of;infer_instance
def has(b:BS)(ws:List Ah):Bool:=Il (AG ws) (H7 1) b.Au.reverse
def Ds(b:BS)(nm ex:Ah):BS:={b with Au:=D5 Dh (AG [nm]) (D5 (CJ ex) Dh b.Au)}
def IM(b:BS)(t:DF):BS:=if b.Of\/b.Au=[] then b else b.FD t.As (El b.Au 0).node
def My(b:BS):Bool:=decide (2<=b.Au.length)&&AG [aWz] (El b.Au 1)
def Ja(b:BS)(t:DF):BS:=
 if b.Of\/b.Au=[] then b else if t.name=aWu then b.FD t.As (El b.Au 0).node
 else if b.My then({b with fs:=false}:BS).FD t.As (El b.Au 1).node else b
def Js(DW:DF->Bool)(b:BS)(t:DF):BS×Bool:=
 if¬t.ok then(b,false)
 else if t.JE then(b,false)
 else if t.k=4 then(b.DB t.data b.BM,false)
 else if t.k≠1 then b.PL.again 2
 else
  let b1:=b.Nn t
  let b2:=if DW t then b1.PL else b1
  ({b2 with mode:=2},false)
def Fy(b:BS)(t:DF):BS×Bool:=
 if¬t.ok then(b,false)
 else if t.k=1 then(b,false)
 else if t.JE then(b,false)
 else if t.lL eHB then(b,false)
 else if t.k=4 then(b.DB t.data b.BM,false)
 else if t.st [aWu] then({b.CU t with mode:=3},false)
 else(b.CU (JV aWu)).again 3
def Fz(b:BS)(t:DF):BS×Bool:=
 if¬t.ok then(b,false)
 else if t.k=1 then(b,false)
 else if t.JE then(b,false)
 else if t.lL eHB then(b,false)
 else if t.k=4 then(b.DB t.data 0,false)
 else if t.st [aWu] then(b.IM t,false)
 else if t.st [aWy] then({b.CU t with head:=b.Mw 1,mode:=4},false)
 else({b.CU (JV aWy) with head:=b.Mw 1}:BS).again 4
def De(b:BS)(t:DF):BS×Bool:=
 if¬t.ok then(b,false)
 else if t.k=1 then(b,false)
 else if t.st [aWy] then(b,false)
 else if t.lL iv then(b,false)
 else if t.JE then(b.Kx t.r,false)
 else if t.k=4 then(b.DB t.data 0,false)
 else if t.st [aWu] then(b.IM t,false)
 else if t.st VO then(b.GF t,false)
 else if t.st [aWO] then(b.Df t.name t.As 2,false)
 else if t.st sNS then(b.Df t.name t.As 3,false)
 else if t.st [aW7] then(b.Df t.name t.As 4,false)
 else if t.st [aWF] then({b.CU t with mode:=5},false)
 else if t.en [aWy] then({b.FY with mode:=6},false)
 else if t.st [AT] then
  let b1:=b.CU t
  ({b1 with A4:=b1.A4++[Ck.zero],fs:=false,mode:=18,tm:=b1.tm++[18]},false)
 else if t.en [AT] then(b.Di,false)
 else b.FY.again 6
def FA(b:BS)(t:DF):BS×Bool:=
 if¬t.ok then(b,false)
 else if t.k=1 then(b,false)
 else if t.st sHN then(b,false)
 else if t.lL eNo then(b,false)
 else if t.st [aWu] then(b.IM t,false)
 else if t.en [aWF] then({b.FY with mode:=4},false)
 else if t.JE then b.De t
 else if t.k=4 then b.De t
 else if t.st û then b.De t
 else b.FY.again 4
def DD(n:Int):Item:=⟨n,1,aWy,false⟩
def E7(b:BS)(t:DF):BS×Bool:=
 let r:=({b with Au:=b.Au++[DD b.head]}:BS).De t
 ({r.1 with Au:=Ce b.head r.1.Au},r.2)
def Gn(b:BS)(t:DF):BS×Bool:=
 if¬t.ok then(b,false)
 else if t.k=1 then(b,false)
 else if t.st [aWy] then(b,false)
 else if t.lL uW then(b,false)
 else if t.JE then(b.Kx t.r,false)
 else if t.k=4 then(b.DB t.data 0,false)
 else if t.st [aWu] then(b.IM t,false)
 else if t.st [aWz] then({b.CU t with fs:=false,mode:=7},false)
 else if t.st [aWA] then({b.CU t with mode:=20},false)
 else if t.st F6 then b.E7 t
 else if t.en [AT] then b.De t
 else(b.CU (JV aWz)).again 7
def LA(b:BS)(t:DF):BS×Bool:=
 if¬t.ok then(b,false)
 else if t.k=5 then(b.Kx t.r,false)
 else if t.k=6 then b.FY.again b.IE
 else if t.k=3 then({b.FY with mode:=b.IE},false)
 else(b,false)
def aGl(b:BS):BS:={b with tm:=b.tm.dropLast}
def E3(b:BS)(m:Int):BS×Bool:=({b with tm:=b.tm.dropLast++[m]}:BS).again m
def Ks(b:BS)(t:DF):BS:=
 if t.r=0 then b else
 let b1:=b.AL.Kx t.r
 if t.JE then b1 else{b1 with fs:=false}
def Mz(b:BS):BS×Bool:=
 if b.Of then(({b with Au:=D5 Dh (AG [AT]) b.Au,A4:=Fw b.A4,tm:=b.tm.dropLast}:BS).JD,true)
 else({b with stop:=true},false)
def DX(b:BS)(t:DF):BS×Bool:=
 if¬t.ok then(b,false)
 else if t.k=5 then(b.Ks t,false)
 else if t.k=4 then(b.DB t.data 0,false)
 else if t.k=1 then(b,false)
 else if t.st F6 then b.De t
 else if t.en [AT] then b.De t
 else if t.st sT1 then b.E3 9
 else if t.st [aXV] then b.E3 12
 else if t.st [[116,114]] then b.E3 13
 else if t.st sTd then b.E3 14
 else if t.k=2 then b.E3 7
 else if t.k=3 then(b,false)
 else b.Mz
def block(b:BS)(t:DF):BS:=b.B4.CU t
def Ia(b:BS)(t:DF):BS:=
 let b1:=b.B4
 (if AG Dc (D1 b1.Au) then b1.FY else b1).CU t
def JR(b:BS)(t:DF):BS:={b.block t with skip:=true,fs:=false}
def MG(b:BS)(t:DF):BS:=
 if b.GO≠0/\¬b.Of then b else
 let b1:=b.B4
 if b.Of then b1.CU t else{b1.CU t with GO:=b1.Mw 1}
def JH(ws:List Ah)(i:Item):Bool:=AG ws i||(AO i&& !(AG aF i))
def FN(b:BS)(ws:List Ah):BS:=match b.Au.reverse.find? (JH ws) with
 |some i=>if AG ws i then b.Ds i.name i.name else b
 |none=>b
def SG(b:BS)(t:DF):BS:=(({b with fs:=false}:BS).FN (if t.name=[108,105] then[[108,105]] else wDD)).block t
def KQ(b:BS)(t:DF):BS:=
 let b1:=if b.has [aWx] then b.Ds aWx [] else b
 {b1.AL.CU t with fs:=false}
def uX(b:BS)(t:DF):BS:=b.AL.Er t.name t.As
def J2(l:List Ck)(n:Int):List Ck:=if FL n l<0 then l else Bx l (FL n l).toNat
def No(b:BS):BS:=
 let k:=DS [97] b.A4
 if k<0 then b else
 let n:=(b.A4.getD k.toNat Ck.zero).node
 let b1:=b.C1 [97]
 {b1 with A4:=J2 b1.A4 n,Au:=Ce n b1.Au}
def Wu(b:BS)(t:DF):BS:=b.No.uX t
def T2(b:BS)(t:DF):BS:=
 let b1:=b.AL
 (if b1.has [aWT] then(b1.C1 aWT).AL else b1).Er t.name t.As
def BU(b:BS)(t:DF):BS:=
 let b1:=b.AL.CU t
 {b1 with A4:=b1.A4++[Ck.zero],fs:=false}
def SH(b:BS)(t:DF):BS:=
 let b1:=if(b.a.nd b.BM).DW then b else b.B4
 {b1.CU t with fs:=false,mode:=9}
def QY(l:List Be):Bool:=match l.find? λa=>decide (a.name=aXD) with
 |some a=>decide (Fc a.value=aXr)
 |none=>false
def empty(b:BS)(t:DF):BS:=
 if t.name=[104,114] then{b.B4.GF t with fs:=false}
 else if t.name∈aA7 then{b.GF t with fs:=b.fs}
 else if t.name=aXW then{b.AL.GF t with fs:=b.fs&&QY t.As}
 else{b.AL.GF {t with name:=if t.name=aX1 then aYd else t.name} with fs:=false}
def W8(b:BS)(t:DF):BS:=
 if t.name=aW8 then{b.block t with sw:=5}
 else if t.name=aXp then{b.Df t.name t.As 2 with skip:=true,fs:=false}
 else if t.name=aYe then({b.B4.AL with fs:=false}:BS).Df t.name t.As 3
 else if t.name=aXC then({b with fs:=false}:BS).Df t.name t.As 3
 else b.Df t.name t.As 3
def U4(b:BS)(t:DF):BS:=
 {b.AL.CU t with fs:=false,mode:=if b.mode=9\/b.mode=11\/b.mode=13\/b.mode=14\/b.mode=15 then 17 else 16}
def KR(b:BS)(t:DF):BS:=(if AG [aWH] (D1 b.Au) then b.FY else b).AL.CU t
def SI(b:BS)(t:DF):BS:=
 (if b.has [aXF] then{b with Au:=D5 (CJ (if t.name=[114,112]\/t.name=[114,116] then aXM else[])) Dh b.Au} else b).CU t
def HF(b:BS)(t:DF):BS:=
 let b1:=b.AL.Cu t.name t.As (if t.name=aXn then 3 else 2)
 if t.sc then b1.FY else b1
def Jt(b:BS)(t:DF):BS:=
 if b.My=false\/b.fs=false then b else
 {({b with a:=b.a.cut (El b.Au 1).node,Au:=b.Au.take 1}:BS).CU t with mode:=20}
def opens(b:BS)(t:DF):BS×Bool:=
 if t.name∈F6 then b.De t
 else if t.name∈jR then(b.block t,false)
 else if t.name∈Dc then(b.Ia t,false)
 else if t.name∈aA4 then(b.JR t,false)
 else if t.name∈rj then(b.uX t,false)
 else if t.name∈Wt then(b.BU t,false)
 else if t.name∈jS then(b.empty t,false)
 else if t.name∈iw then(b,false)
 else if t.name∈o9 then(b.W8 t,false)
 else if t.name∈ix then(b.SI t,false)
 else if t.name∈aA5 then(b.HF t,false)
 else if t.name∈iy then(b.SG t,false)
 else if t.name∈aA6 then(b.KR t,false)
 else if t.name∈QW then(b.Ja t,false)
 else if t.name=aWA then(b.Jt t,false)
 else if t.name=aWU then(b.MG t,false)
 else if t.name=aWx then(b.KQ t,false)
 else if t.name=[97] then(b.Wu t,false)
 else if t.name=aWT then(b.T2 t,false)
 else if t.name=aWL then(b.SH t,false)
 else if t.name=aW6 then(b.U4 t,false)
 else(b.AL.CU t,false)
def PM(b:BS)(t:DF):BS×Bool:=if b.has [aWz] then({b with mode:=19},decide (t.name=aWu)) else(b,false)
def E4(b:BS)(t:DF):BS:=if b.has [t.name] then b.Ds t.name [] else b
def FB(b:BS):BS:=if b.has Dc then{b with Au:=D5 Dh (AG Dc) (D5 (CJ []) Dh b.Au)} else b
def Gp(b:BS)(t:DF):BS:=if b.has [t.name] then{b.Ds t.name [] with A4:=Fw b.A4} else b
def NU(b:BS)(sc:Int)(q:Item->Bool):Bool:=Il q (H7 sc) b.Au.reverse
def HG(b:BS)(t:DF):BS:=
 let s:=b.NU (if t.name=[112] then 3 else if t.name=[108,105] then 2 else 1) (AG [t.name])
 if s then b.Ds t.name t.name
 else if t.name=[112] then(b.CU (JV [112])).Ds t.name t.name else b
def Ju(b:BS)(t:DF):BS:=
 if b.Of then b.E4 t
 else if b.GO≠0/\b.NU 1 (Bt b.GO) then{b with GO:=0,Au:=Ce b.GO (D5 (CJ []) Dh b.Au)}
 else{b with GO:=0}
def MA(b:BS)(t:DF):BS×Bool:=
 if t.name=AT then b.De t
 else if t.name∈QW then b.PM t
 else if t.name∈QX then(b.E4 t,false)
 else if t.name∈ü then(b.C1 t.name,false)
 else if t.name∈Dc then(b.FB,false)
 else if t.name∈Wt then(b.Gp t,false)
 else if t.name∈Y9 then(b.HG t,false)
 else if t.name=aWU then(b.Ju t,false)
 else if t.name=[98,114] then(b.empty (JV [98,114]),false)
 else(b.CV t.name,false)
def LB(b:BS)(t:DF):BS×Bool:=
 if¬t.ok then(b,false)
 else if t.k=5 then(b.Ks t,false)
 else if t.k=4 then(b.DB t.data 0,false)
 else if t.k=6 then(if 0<b.tm.length then b.DX t else({b with stop:=true},false))
 else if t.k=2 then b.opens t
 else if t.k=3 then b.MA t
 else(b,false)
def apply(DW:DF->Bool)(b:BS)(t:DF):BS×Bool:=
 if¬t.ok then(b,false)
 else if b.mode=1 then b.Js DW t
 else if b.mode=2 then b.Fy t
 else if b.mode=3 then b.Fz t
 else if b.mode=4 then b.De t
 else if b.mode=5 then b.FA t
 else if b.mode=6 then b.Gn t
 else if b.mode=7 then b.LB t
 else if b.mode=8 then b.LA t
 else if b.mode=18 then b.DX t
 else(b,false)
end BS
structure Gz(b:BS)(n o a:Nat):Prop where
 ok:Ey b
 rm:CK b n
 Au:b.Au.length<=o
 A4:b.A4.length<=a
structure DF.Sm(t:DF):Prop where
 name:t.name.length<=1000
 As:GD t.As
 data:t.data.length<=1000
 r: -2147483648<=t.r/\t.r<=2147483647
structure Np(b:BS):Prop where
 has:b.a.has b.head
 kind:(b.a.nd b.head).kind=4
 A9:(b.a.nd b.head).A9=1
 name:(b.a.nd b.head).name=aWy
 no:b.head∉b.Au.map Item.node
section
variable{b b':BS}{n n' o o' a a':Nat}{nm:Ah}{l:List Be}{t:DF}{sp:Int}
def Gz.le(g:Gz b n o a)(h1:n'<=n)(h2:o<=o')(h3:a<=a'):Gz b n' o' a':=⟨g.ok,g.rm.le h1,Bv g.Au h2,Bv g.A4 h3⟩
def Gz.ite{c:Prop}[Decidable c]{x y:BS×Bool}(h1:Gz x.1 n o a)(h2:Gz y.1 n o a):Gz (if c then x else y).1 n o a:=by split;exact h1;exact h2
def Gz.aGm{d c:Prop}[Decidable d][Decidable c]{x y:BS×Bool}(h1:Gz x.1 n o a)(h2:Gz y.1 n o a):Gz (if d then x else if c then x else y).1 n o a:= .ite h1 (.ite h1 h2)
def Gz.aKg{e d c:Prop}[Decidable e][Decidable d][Decidable c]{x y:BS×Bool}(h1:Gz x.1 n o a)(h2:Gz y.1 n o a):Gz (if e then x else if d then x else if c then x else y).1 n o a:= .ite h1 (.aGm h1 h2)
def Gz.ý{f e d c:Prop}[Decidable f][Decidable e][Decidable d][Decidable c]{x y:BS×Bool}(h1:Gz x.1 n o a)(h2:Gz y.1 n o a):Gz (if f then x else if e then x else if d then x else if c then x else y).1 n o a:= .ite h1 (.aKg h1 h2)
def Gz.dn(g:Gz b n o a)(h:n'<=n):Gz b n' o a:=g.le h (Ad _) (Ad _)
def Gz.Mm(g:Gz b (n+4) o a)(hl:GD l)(hn:nm.length<=1000):Gz (b.Cu nm l sp) n (o+1) a:=by
 refine⟨YF g.ok,QN g.rm hl hn,?_,by rw[HS];exact g.A4⟩;have:=g.Au;unfold BS.Cu;split
 .rename_i hs;have e:(b.Gm nm l sp (b.place 0).1).Au=b.Au:=by unfold BS.Gm;rw[Af hs]
  simp only[e,Ao,AS];omega
 .omega
def Gz.eq{c:BS}(g:Gz b n o a)(h1:c.a=b.a)(h2:c.BM=b.BM)(h3:c.Au=b.Au)(d:c.A4=b.A4)(e:c.tm=b.tm):Gz c n o a:=
 ⟨g.ok.of_eq h1 h2 h3 d,g.rm.eq h1 h3 d e,by rw[h3];exact g.Au,by rw[d];exact g.A4⟩
def Gz.sub(g:Gz b n o a){lo:List Item}{lc:List Ck}{lt:List Int}(h1:lo.Sublist b.Au)(h2:lc.Sublist b.A4)(h3:lt.length<=b.tm.length):Gz {b with Au:=lo,A4:=lc,tm:=lt} n o a:=
 ⟨((g.ok.Ky h1).gN (by exact h2)).of_eq rfl rfl rfl rfl,g.rm.sub rfl h1 h2 h3,Bv h1.length_le g.Au,Bv h2.length_le g.A4⟩
def Gz.Ky(g:Gz b n o a){lo:List Item}(h1:lo.Sublist b.Au):Gz {b with Au:=lo} n o a:=g.sub h1 (BQ _) (Ad _)
def Gz.Er(g:Gz b (n+5) o a)(hl:GD l)(hn:nm.length<=1000):Gz (b.Er nm l) n (o+1) (a+1):=by
 have g1:=(g.le (n':=n+1+4) Ab (Ad _) (Ad _)).Mm (sp:=1) hl hn;refine⟨cU g.ok,oC g.rm hl hn,g1.Au,?_⟩;unfold BS.Er;simp only
 obtain⟨l',h1,h2⟩:=TL (l:=(b.Cu nm l 1).A4) (e:=⟨b.a.len+1,nm,l⟩);rw[h2,Ao,AS];have:=h1.length_le;have:=g1.A4;omega
def Gz.AL(g:Gz b (n+4*a) o a):Gz b.AL n (o+a) a:=by have h1:=g.A4;have h2:=g.Au;have h:=jN (m:=n) (g.rm.le Ab);exact⟨YJ g.ok,h.1,Ab,Ab⟩
def Gz.C1(g:Gz b (n+8*(4*(o+8)+10)) o a):Gz (b.C1 nm) n (o+8) (a+8):=by
 refine⟨cY g.ok,?_,?_,?_⟩<;>unfold BS.C1<;>split
 .unfold BS.FY;split;.exact g.rm.le Ab
  .exact(g.rm.Ky (Cf _ _)).le Ab
 .exact(QS g.Au g.rm).1
 .have:=g.Au;unfold BS.FY;split;.omega
  .simp only[Ay];omega
 .exact(QS g.Au g.rm).2
 .have:=g.A4;unfold BS.FY;split<;>(try simp only)<;>omega
 .have:=g.A4;have:=Y7 (n:=8) (b:=b) (nm:=nm);omega
def Gz.Kx(g:Gz b (n+5) o a){r:Int}:Gz (b.Kx r) n o a:=⟨yN g.ok,oY g.rm (oR _),g.Au,g.A4⟩
def Gz.DB(g:Gz b (n+5) o a){s:Ah}(hs:s.length<=1000){p:Int}:Gz (b.DB s p) n o a:=by
 refine⟨YI g.ok,?_,g.Au,g.A4⟩;unfold BS.DB;split;.exact QT g.rm Ab
 .exact QT g.rm Ab
def Gz.FD(g:Gz b (n+1000) o a)(hl:GD l){h:Int}:Gz (b.FD l h) n o a:=by
 refine⟨oA g.ok,uV g.rm hl.1,?_,?_⟩<;>unfold BS.FD<;>split;.exact g.Au
 .exact g.Au
 .exact g.A4
 .exact g.A4
def Gz.FY(g:Gz b n o a):Gz b.FY n o a:=by
 unfold BS.FY;split;.exact g
 .exact g.Ky (Cf _ _)
def Gz.Ds(g:Gz b n o a){x:Ah}:Gz (b.Ds nm x) n o a:=g.Ky (Dd.trans Dd)
def Gz.B4(g:Gz b n o a):Gz b.B4 n o a:=by
 unfold BS.B4;split;.exact g.Ky (Dd.trans Dd)
 .exact g
def Gz.CV(g:Gz b n o a):Gz (b.CV nm) n o a:=by
 unfold BS.CV;split
 .split;.exact g.Ky (I6.trans Dd)
  .exact g
 .exact g
def Gz.JD(g:Gz b n o a):Gz b.JD n o a:=g.eq rfl rfl rfl rfl rfl
def Gz.mark(g:Gz b (n+1) o a):Gz {b with A4:=b.A4++[Ck.zero]} n o (a+1):=by
 refine⟨jM g.ok,g.rm.aB8 (e:=Ck.zero) AB (λe he=>?_) ⟨AA,AA,λa ha=>by cases ha⟩,g.Au,?_⟩
 .rcases An.1 he with he|he
  .exact .inl he
  .exact .inr (by simpa using he)
 .have:=g.A4;simp only[Ao,AS];omega
def Gz.tm(g:Gz b (n+1) o a){m:Int}:Gz {b with tm:=b.tm++[m]} n o a:=by have r:=g.rm;have c:=r.le (m':=n) Ab;exact⟨g.ok.of_eq rfl rfl rfl rfl,⟨c.n,c.at_,c.data,c.Au,c.A4,by have:=r.tm;simp only[Ao,AS];omega,c.Ep,c.tT⟩,g.Au,g.A4⟩
def Gz.Di(g:Gz b n o a):Gz b.Di n o a:=by
 unfold BS.Di;split;.exact g
 .exact(g.sub (lo:=D5 Dh (AG [AT]) (D5 EC Dh b.Au)) (lc:=Fw b.A4) (lt:=b.tm.dropLast) (Dd.trans Dd) (Cf _ _) AB).JD
def Gz.Df(g:Gz b (n+4) o a){s:Int}(hl:GD l)(hn:nm.length<=1000):Gz (b.Df nm l s) n (o+1) a:=(g.Mm (sp:=1) hl hn).eq rfl rfl rfl rfl rfl
def Gz.CU(g:Gz b (n+4) o a)(ht:t.Sm):Gz (b.CU t) n (o+1) a:=g.Mm ht.As ht.name
def J3(h:nm.length<=1000):(JV nm).Sm:=⟨h,⟨show([]:List Be).length<=1000 by decide,λa ha=>by cases ha⟩,(AA:([]:Ah).length<=1000),show(-2147483648:Int)<=0/\(0:Int)<=2147483647 by decide⟩
def Gz.GF(g:Gz b (n+4) o a)(ht:t.Sm):Gz (b.GF t) n (o+1) a:=(g.CU ht).FY
def Gz.IM(g:Gz b (n+1000) o a)(ht:t.Sm):Gz (b.IM t) n o a:=by
 unfold BS.IM;split;.exact g.le Ab (Ad _) (Ad _)
 .exact g.FD ht.As
def Gz.De(g:Gz b (n+1004) o a)(ht:t.Sm):Gz (b.De t).1 n (o+1) (a+1):=by have g0:Gz b n (o+1) (a+1):=g.le Ab Ab Ab;have d:Gz b (n+4) o a:=g.le Ab Ab Ab;unfold BS.De;refine .ý g0 (.ite ((g.le (n':=n+5) Ab (Ad _) (Ad _)).Kx.le (Ad _) Ab Ab) (.ite (((g.le (n':=n+5) Ab (Ad _) (Ad _)).DB ht.data).le (Ad _) Ab Ab) (.ite (((g.le (n':=n+1000) Ab (Ad _) (Ad _)).IM ht).le (Ad _) Ab Ab) (.ite ((d.GF ht).le (Ad _) Ab Ab) (.ite ((d.Df ht.As ht.name).le (Ad _) Ab Ab) (.ite ((d.Df ht.As ht.name).le (Ad _) Ab Ab) (.ite ((d.Df ht.As ht.name).le (Ad _) Ab Ab) (.ite (((d.CU ht).le (Ad _) Ab Ab).eq rfl rfl rfl rfl rfl) (.ite ((d.FY.le Ab Ab Ab).eq rfl rfl rfl rfl rfl) (.ite ?_ (.ite (d.Di.le Ab Ab Ab) ((d.FY.le Ab Ab Ab).eq (c:={b.FY with mode:=6}) rfl rfl rfl rfl rfl))))))))))));exact((((g.le (n':=n+2+4) Ab (Ad _) (Ad _)).CU ht).mark.tm (m:=18)).eq rfl rfl rfl rfl rfl)
def Gz.FA(g:Gz b (n+1004) o a)(ht:t.Sm):Gz (b.FA t).1 n (o+1) (a+1):=by have g0:Gz b n (o+1) (a+1):=g.le Ab Ab Ab;unfold BS.FA;exact .ý g0 (.ite (((g.le (n':=n+1000) Ab (Ad _) (Ad _)).IM ht).le (Ad _) Ab Ab) (.ite (g0.FY.eq rfl rfl rfl rfl rfl) (.aKg (g.De ht) (g0.FY.eq (c:={b.FY with mode:=4}) rfl rfl rfl rfl rfl))))
def Gz.push(g:Gz b (n+1) o a)(c:Np b):Gz {b with Au:=b.Au++[BS.DD b.head]} n (o+1) a:=by have RA:=g.ok.aAb (i:=BS.DD b.head) (k:=b.Au.length) ⟨c.has,c.kind,c.A9,c.name⟩ c.no;rw[Bk,Ft] at RA;have d:=g.rm.aB7 (i:=BS.DD b.head) (l':=b.Au++[BS.DD b.head]) AB (λj hj=>by simpa using hj) (AA:(aWy:Ah).length<=1000);exact⟨RA,d,by have:=g.Au;simp only[Ao,AS];omega,g.A4⟩
def Gz.E7(g:Gz b (n+1005) o a)(c:Np b)(ht:t.Sm):Gz (b.E7 t).1 n (o+2) (a+1):=by have g2:=((Gz.push (n:=n+1004) g c).De ht).Ky (lo:=Ce b.head (BS.De {b with Au:=b.Au++[BS.DD b.head]} t).1.Au) EI;unfold BS.E7;exact g2
def Gz.Gn(g:Gz b (n+1005) o a)(e:Np b)(ht:t.Sm):Gz (b.Gn t).1 n (o+2) (a+1):=by have g0:Gz b n (o+2) (a+1):=g.le Ab Ab Ab;have d:Gz b (n+4) o a:=g.le Ab Ab Ab;unfold BS.Gn;exact .ý g0 (.ite ((g.le (n':=n+5) Ab (Ad _) (Ad _)).Kx.le (Ad _) Ab Ab) (.ite (((g.le (n':=n+5) Ab (Ad _) (Ad _)).DB ht.data).le (Ad _) Ab Ab) (.ite (((g.le (n':=n+1000) Ab (Ad _) (Ad _)).IM ht).le (Ad _) Ab Ab) (.ite (((d.CU ht).le (Ad _) Ab Ab).eq rfl rfl rfl rfl rfl) (.ite (((d.CU ht).le (Ad _) Ab Ab).eq rfl rfl rfl rfl rfl) (.ite (g.E7 e ht) (.ite (((g.le (n':=n+1004) Ab (Ad _) (Ad _)).De ht).le (Ad _) Ab Ab) (((d.CU (J3 (nm:=aWz) AA)).le (Ad _) Ab Ab).eq (c:={b.CU (JV aWz) with mode:=7}) rfl rfl rfl rfl rfl))))))))
def Gz.LA(g:Gz b (n+5) o a):Gz (b.LA t).1 n o a:=by have g0:Gz b n o a:=g.le Ab Ab Ab;unfold BS.LA;exact .ite g0 (.ite g.Kx (.ite (g0.FY.eq (c:={b.FY with mode:=b.IE}) rfl rfl rfl rfl rfl) (.ite (g0.FY.eq (c:={b.FY with mode:=b.IE}) rfl rfl rfl rfl rfl) g0)))
def Gz.Ks(g:Gz b (n+4*a+5) o a):Gz (b.Ks t) n (o+a) a:=by
 have g1:Gz (b.AL.Kx t.r) n (o+a) a:=(g.le (n':=n+5+4*a) Ab (Ad _) (Ad _)).AL.Kx;unfold BS.Ks;split;.exact g.le Ab Ab (Ad _)
 .split;.exact g1
  .exact g1.eq rfl rfl rfl rfl rfl
def Gz.Mz(g:Gz b n o a):Gz b.Mz.1 n o a:=by
 unfold BS.Mz;split;.exact(g.sub (lo:=D5 Dh (AG [AT]) b.Au) (lc:=Fw b.A4) (lt:=b.tm.dropLast) Dd (Cf _ _) AB).JD
 .exact g.eq rfl rfl rfl rfl rfl
def Gz.E3(g:Gz b (n+1) o a){m:Int}:Gz (b.E3 m).1 n o a:=by have g1:=(g.sub (lo:=b.Au) (lc:=b.A4) (lt:=b.tm.dropLast) (BQ _) (BQ _) AB).tm (m:=m);exact g1.eq rfl rfl rfl rfl rfl
def Gz.DX(g:Gz b (n+4*a+1005) o a)(ht:t.Sm):Gz (b.DX t).1 n (o+a+1) (a+1):=by have g0:Gz b n (o+a+1) (a+1):=g.le Ab Ab Ab;have gf:∀m,Gz (b.E3 m).1 n (o+a+1) (a+1):=λm=>(g.le (n':=n+1) Ab (Ad _) (Ad _)).E3.le (Ad _) Ab Ab;unfold BS.DX;exact .ite g0 (.ite ((g.le (n':=n+4*a+5) Ab (Ad _) (Ad _)).Ks.le (Ad _) Ab Ab) (.ite (((g.le (n':=n+5) Ab (Ad _) (Ad _)).DB ht.data).le (Ad _) Ab Ab) (.ite g0 (.aGm (((g.le (n':=n+1004) Ab (Ad _) (Ad _)).De ht).le (Ad _) Ab Ab) (.ite (gf 9) (.ite (gf 12) (.ite (gf 13) (.ite (gf 14) (.ite (gf 7) (.ite g0 g0.Mz))))))))))
def Gz.block(g:Gz b (n+4) o a)(ht:t.Sm):Gz (b.block t) n (o+1) a:=g.B4.CU ht
def Gz.Ia(g:Gz b (n+4) o a)(ht:t.Sm):Gz (b.Ia t) n (o+1) a:=by
 unfold BS.Ia;refine Gz.CU ?_ ht;split;.exact g.B4.FY
 .exact g.B4
def Gz.JR(g:Gz b (n+4) o a)(ht:t.Sm):Gz (b.JR t) n (o+1) a:=(g.block ht).eq rfl rfl rfl rfl rfl
def Gz.MG(g:Gz b (n+4) o a)(ht:t.Sm):Gz (b.MG t) n (o+1) a:=by
 unfold BS.MG;split;.exact g.le Ab Ab (Ad _)
 .simp only;split;.exact g.B4.CU ht
  .exact(g.B4.CU ht).eq rfl rfl rfl rfl rfl
def Gz.FN(g:Gz b n o a){ws:List Ah}:Gz (b.FN ws) n o a:=by
 unfold BS.FN;split
 .split;.exact g.Ds
  .exact g
 .exact g
def Gz.SG(g:Gz b (n+4) o a)(ht:t.Sm):Gz (b.SG t) n (o+1) a:=(g.eq (c:={b with fs:=false}) rfl rfl rfl rfl rfl).FN.block ht
def Gz.KQ(g:Gz b (n+4*a+4) o a)(ht:t.Sm):Gz (b.KQ t) n (o+a+1) a:=by
 have g1:Gz (if b.has [aWx] then b.Ds aWx [] else b) (n+4+4*a) o a:=by
  split;.exact g.Ds.le Ab (Ad _) (Ad _)
  .exact g.le Ab (Ad _) (Ad _)
 exact(g1.AL.CU ht).eq rfl rfl rfl rfl rfl
def Gz.uX(g:Gz b (n+4*a+5) o a)(ht:t.Sm):Gz (b.uX t) n (o+a+1) (a+1):=((g.le (n':=n+5+4*a) Ab (Ad _) (Ad _)).AL.Er ht.As ht.name)
def Md{l:List Ck}{x:Int}:(BS.J2 l x).Sublist l:=by
 unfold BS.J2;split;.exact BQ _
 .exact CL
def Gz.No(g:Gz b (n+8*(4*(o+8)+10)) o a):Gz b.No n (o+8) (a+8):=by
 unfold BS.No;simp only;split;.exact g.le Ab Ab Ab
 .exact g.C1.sub EI Md (Ad _)
def Gz.Wu(g:Gz b (n+8*(4*(o+8)+10)+4*(a+8)+5) o a)(ht:t.Sm):Gz (b.Wu t) n (o+a+17) (a+9):=
 (Gz.uX ((g.le (n':=n+4*(a+8)+5+8*(4*(o+8)+10)) Ab (Ad _) (Ad _)).No) ht).le (Ad _) Ab (Ad _)
def Gz.T2(g:Gz b (n+8*(4*(o+a+8)+10)+8*a+100) o a)(ht:t.Sm):Gz (b.T2 t) n (o+2*a+17) (a+9):=by
 have g1:Gz b.AL (n+5+4*(a+8)+8*(4*(o+a+8)+10)) (o+a) a:=(g.le Ab (Ad _) (Ad _)).AL;have g2:Gz (if b.AL.has [aWT] then(b.AL.C1 aWT).AL else b.AL) (n+5) (o+a+8+(a+8)) (a+8):=by
  split;.exact g1.C1.AL
  .exact g1.le Ab Ab Ab
 exact(g2.Er ht.As ht.name).le (Ad _) Ab (Ad _)
def Gz.BU(g:Gz b (n+4*a+5) o a)(ht:t.Sm):Gz (b.BU t) n (o+a+1) (a+1):=
 (((g.le (n':=n+1+4+4*a) Ab (Ad _) (Ad _)).AL.CU ht).mark).eq rfl rfl rfl rfl rfl
def Gz.SH(g:Gz b (n+4) o a)(ht:t.Sm):Gz (b.SH t) n (o+1) a:=by
 have g1:Gz (if(b.a.nd b.BM).DW then b else b.B4) (n+4) o a:=by
  split;.exact g
  .exact g.B4
 exact(g1.CU ht).eq rfl rfl rfl rfl rfl
def DF.Sm.rn(ht:t.Sm)(h:nm.length<=1000):({t with name:=nm}:DF).Sm:=⟨h,ht.As,ht.data,ht.r⟩
def Gz.empty(g:Gz b (n+4*a+4) o a)(ht:t.Sm):Gz (b.empty t) n (o+a+1) a:=by
 have d:Gz b (n+4) o a:=g.le Ab (Ad _) (Ad _);have c:Gz b.AL (n+4) (o+a) a:=(g.le Ab (Ad _) (Ad _)).AL;unfold BS.empty;split;.exact((d.B4.GF ht).le (Ad _) Ab (Ad _)).eq rfl rfl rfl rfl rfl
 .split;.exact((d.GF ht).le (Ad _) Ab (Ad _)).eq rfl rfl rfl rfl rfl
  .split;.exact(c.GF ht).eq rfl rfl rfl rfl rfl
   .exact(c.GF (ht.rn (by split;exact AA;exact ht.name))).eq rfl rfl rfl rfl rfl
def Gz.W8(g:Gz b (n+4*a+4) o a)(ht:t.Sm):Gz (b.W8 t) n (o+a+1) a:=by
 have d:Gz b (n+4) o a:=g.le Ab (Ad _) (Ad _);have e:Gz b.B4.AL (n+4) (o+a) a:=(g.B4.le Ab (Ad _) (Ad _)).AL;unfold BS.W8;split;.exact((d.block ht).le (Ad _) Ab (Ad _)).eq rfl rfl rfl rfl rfl
 .split;.exact((d.Df (s:=2) ht.As ht.name).le (Ad _) Ab (Ad _)).eq rfl rfl rfl rfl rfl
  .split;.exact(e.eq (c:={b.B4.AL with fs:=false}) rfl rfl rfl rfl rfl).Df ht.As ht.name
   .split;.exact((d.eq (c:={b with fs:=false}) rfl rfl rfl rfl rfl).Df ht.As ht.name).le (Ad _) Ab (Ad _)
    .exact(d.Df ht.As ht.name).le (Ad _) Ab (Ad _)
def Gz.U4(g:Gz b (n+4*a+4) o a)(ht:t.Sm):Gz (b.U4 t) n (o+a+1) a:=
 ((g.le (n':=n+4+4*a) Ab (Ad _) (Ad _)).AL.CU ht).eq rfl rfl rfl rfl rfl
def Gz.KR(g:Gz b (n+4*a+4) o a)(ht:t.Sm):Gz (b.KR t) n (o+a+1) a:=by
 have g1:Gz (if AG [aWH] (D1 b.Au) then b.FY else b) (n+4+4*a) o a:=by
  split;.exact g.FY.le Ab (Ad _) (Ad _)
  .exact g.le Ab (Ad _) (Ad _)
 exact g1.AL.CU ht
def Gz.SI(g:Gz b (n+4) o a)(ht:t.Sm):Gz (b.SI t) n (o+1) a:=by
 unfold BS.SI;refine Gz.CU ?_ ht;split;.exact g.Ky Dd
 .exact g
def Gz.HF(g:Gz b (n+4*a+4) o a)(ht:t.Sm):Gz (b.HF t) n (o+a+1) a:=by
 have g1:=(g.le (n':=n+4+4*a) Ab (Ad _) (Ad _)).AL.Mm (sp:=if t.name=aXn then 3 else 2) ht.As ht.name;unfold BS.HF;simp only;split;.exact g1.FY
 .exact g1
def VP(h:b.My=true):El b.Au 1∈b.Au:=by unfold BS.My at h;simp only[Bb,Ct] at h;exact Lt AA (by have:=h.1;omega)
def pA{x:Int}:Oa b.a (b.a.cut x):=by
 unfold Ar.cut;simp only;split;.exact .refl
 .exact Oa.trans UQ UR
def Gz.Jt(g:Gz b (n+4) o a)(ht:t.Sm):Gz (b.Jt t) n (o+1) a:=by
 unfold BS.Jt;split;.exact g.le Ab Ab (Ad _)
 .rename_i h;have h2:b.My=true:=by
   cases hs:b.My;.exact absurd (.inl hs) h
   .rfl
  have hi:=g.ok.op _ (VP h2);have g1:Gz {b with a:=b.a.cut (El b.Au 1).node} (n+4) o a:=⟨g.ok.IP (gL g.ok.ok hi.1 (by rw[hi.2.1];decide)) tO,g.rm.IP pA,g.Au,g.A4⟩;exact((g1.Ky (lo:=b.Au.take 1) (Cf _ _)).CU ht).eq rfl rfl rfl rfl rfl
def Gz.Ja(g:Gz b (n+1000) o a)(ht:t.Sm):Gz (b.Ja t) n o a:=by
 have g0:Gz b n o a:=g.le Ab (Ad _) (Ad _);unfold BS.Ja;split;.exact g0
 .split;.exact g.FD ht.As
  .split;.exact(g.eq (c:={b with fs:=false}) rfl rfl rfl rfl rfl).FD ht.As
   .exact g0
def Gz.opens(g:Gz b (n+8*(4*(o+a+8)+10)+8*a+2000) o a)(ht:t.Sm):Gz (b.opens t).1 n (o+2*a+17) (a+9):=by
 have ge:∀{m},m<=n+8*(4*(o+a+8)+10)+8*a+2000->Gz b m o a:=λh=>g.le h (Ad _) (Ad _);unfold BS.opens;exact .ite (((ge Ab).De ht).le (Ad _) Ab Ab)
  (.ite (((ge Ab).block ht).le (Ad _) Ab Ab)
  (.ite (((ge Ab).Ia ht).le (Ad _) Ab Ab)
  (.ite (((ge Ab).JR ht).le (Ad _) Ab Ab)
  (.ite (((ge Ab).uX ht).le (Ad _) Ab Ab)
  (.ite (((ge Ab).BU ht).le (Ad _) Ab Ab)
  (.ite (((ge Ab).empty ht).le (Ad _) Ab Ab)
  (.ite (ge (m:=n) Ab |>.le (Ad _) Ab Ab)
  (.ite (((ge Ab).W8 ht).le (Ad _) Ab Ab)
  (.ite (((ge Ab).SI ht).le (Ad _) Ab Ab)
  (.ite (((ge Ab).HF ht).le (Ad _) Ab Ab)
  (.ite (((ge Ab).SG ht).le (Ad _) Ab Ab)
  (.ite (((ge Ab).KR ht).le (Ad _) Ab Ab)
  (.ite (((ge Ab).Ja ht).le (Ad _) Ab Ab)
  (.ite (((ge Ab).Jt ht).le (Ad _) Ab Ab)
  (.ite (((ge Ab).MG ht).le (Ad _) Ab Ab)
  (.ite (((ge Ab).KQ ht).le (Ad _) Ab Ab)
  (.ite (((ge Ab).Wu ht).le (Ad _) Ab Ab)
  (.ite (((ge Ab).T2 ht).le (Ad _) Ab Ab)
  (.ite (((ge Ab).SH ht).le (Ad _) Ab Ab)
  (.ite (((ge Ab).U4 ht).le (Ad _) Ab Ab)
  (((ge (m:=n+4+4*a) Ab).AL.CU ht).le (Ad _) Ab Ab)))))))))))))))))))))
def Gz.E4(g:Gz b n o a):Gz (b.E4 t) n o a:=by
 unfold BS.E4;split;.exact g.Ds
 .exact g
def Gz.HG(g:Gz b (n+4) o a):Gz (b.HG t) n (o+1) a:=by
 have g0:Gz b n (o+1) a:=g.le Ab Ab (Ad _);unfold BS.HG;dsimp only;generalize b.NU _ _=q;cases q
 .by_cases h:t.name=[112];.simp only[Cb,DP,Af h];exact(g.CU (J3 (nm:=[112]) (AA:([112]:Ah).length<=1000))).Ds
  .simp only[Cb,DP,Ac h];exact g0
 .exact g0.Ds
def Gz.MA(g:Gz b (n+8*(4*(o+a+8)+10)+8*a+2000) o a)(ht:t.Sm):Gz (b.MA t).1 n (o+2*a+17) (a+9):=by
 have ge:∀{m},m<=n+8*(4*(o+a+8)+10)+8*a+2000->Gz b m o a:=λh=>g.le h (Ad _) (Ad _);have g0:Gz b n (o+2*a+17) (a+9):=g.le Ab Ab Ab;unfold BS.MA;refine .ite (((ge Ab).De ht).le (Ad _) Ab Ab)
  (.ite ?_ (.ite g0.E4 (.ite (((ge (m:=n+8*(4*(o+8)+10)) Ab).C1).le (Ad _) Ab Ab)
  (.ite ?_ (.ite ?_ (.ite (((ge (m:=n+4) Ab).HG).le (Ad _) Ab Ab) (.ite ?_
  (.ite (((ge (m:=n+4*a+4) Ab).empty (J3 (nm:=[98,114]) AA)).le (Ad _) Ab Ab) g0.CV))))))))
 .unfold BS.PM;split;.exact g0.eq rfl rfl rfl rfl rfl
  .exact g0
 .unfold BS.FB;split;.exact g0.Ky (Dd.trans Dd)
  .exact g0
 .unfold BS.Gp;split;.exact(g0.sub (lo:=(b.Ds t.name []).Au) (lc:=Fw b.A4) (lt:=b.tm) (Dd.trans Dd) (Cf _ _) (Ad _)).eq rfl rfl rfl rfl rfl
  .exact g0
 .unfold BS.Ju;split;.exact g0.E4
  .split;.exact(g0.Ky (lo:=Ce b.GO (D5 (CJ []) Dh b.Au)) (EI.trans Dd)).eq rfl rfl rfl rfl rfl
   .exact g0.eq rfl rfl rfl rfl rfl
def Gz.LB(g:Gz b (n+8*(4*(o+a+8)+10)+8*a+2000) o a)(ht:t.Sm):Gz (b.LB t).1 n (o+2*a+17) (a+9):=by
 have ge:∀{m},m<=n+8*(4*(o+a+8)+10)+8*a+2000->Gz b m o a:=λh=>g.le h (Ad _) (Ad _);have g0:Gz b n (o+2*a+17) (a+9):=g.le Ab Ab Ab;unfold BS.LB;exact .ite g0 (.ite (((ge (m:=n+4*a+5) Ab).Ks).le (Ad _) Ab Ab)
  (.ite (((ge (m:=n+5) Ab).DB ht.data).le (Ad _) Ab Ab)
  (.ite (.ite (((ge (m:=n+4*a+1005) Ab).DX ht).le (Ad _) Ab Ab) (g0.eq rfl rfl rfl rfl rfl))
  (.ite (g.opens ht) (.ite (g.MA ht) g0)))))
def Gz.PL(g:Gz b n o a):Gz b.PL n o a:=by have hd:=g.ok.BM;have hk:=g.ok.ok.TH _ hd.1;refine⟨g.ok.IP (gM g.ok.ok hd.1 ⟨hk.k,hk.Bm,hk.elem,hk.nm,hk.dt,hk.data,λh=>absurd hd.2 h,hk.sp,hk.zn,hk.Dt,hk.RZ,hk.OI,hk.root,hk.yG⟩ rfl rfl rfl ⟨(g.ok.ok.BM _ hd.1).1,(g.ok.ok.BM _ hd.1).2,g.ok.ok.YB _ hd.1⟩ rfl rfl λc=>c) (Py rfl rfl rfl),g.rm.IP (TM rfl rfl),g.Au,g.A4⟩
def Gz.Nn(g:Gz b (n+1) o a):Gz (b.Nn t) n o a:=by
 have hd:=g.ok.BM;have hx:qK {kind:=3,BM:=b.BM,name:=t.name,KB:=t.KB,sys:=t.sys}:=by constructor<;>simp[Dt,GB,cQ]
 have RA:=Pv g.ok.ok hx (.inr ⟨AB,hd⟩) rfl rfl rfl rfl (λh=>absurd h.1 (AA:¬(3:Int)=4));refine⟨g.ok.IP (NT RA) (Px.trans Hi),?_,g.Au,g.A4⟩;exact(g.rm.GL (L7 (y:={kind:=3,BM:=b.BM,name:=t.name,KB:=t.KB,sys:=t.sys}) AB AB)).IP Lv
def Gz.Js{qk:DF->Bool}(g:Gz b (n+5) o a)(ht:t.Sm):Gz (b.Js qk t).1 n o a:=by
 have g0:Gz b n o a:=g.le Ab (Ad _) (Ad _);unfold BS.Js;refine .aGm g0 (.ite (g.DB ht.data) (.ite (g0.PL.eq (c:={b.PL with mode:=2}) rfl rfl rfl rfl rfl) ?_));have g1:Gz (b.Nn t) n o a:=(g.le (n':=n+1) Ab (Ad _) (Ad _)).Nn;simp only;split;.exact g1.PL.eq rfl rfl rfl rfl rfl
 .exact g1.eq rfl rfl rfl rfl rfl
def Gz.Fy(g:Gz b (n+5) o a)(ht:t.Sm):Gz (b.Fy t).1 n (o+1) a:=by have d:Gz b (n+4) o a:=g.le Ab (Ad _) (Ad _);unfold BS.Fy;exact .ý (d.le Ab Ab (Ad _)) (.ite ((g.DB ht.data).le (Ad _) Ab (Ad _)) (.ite ((d.CU ht).eq rfl rfl rfl rfl rfl) ((d.CU (J3 (nm:=aWu) AA)).eq (c:={b.CU (JV aWu) with mode:=3}) rfl rfl rfl rfl rfl)))
def Gz.Fz(g:Gz b (n+1000) o a)(ht:t.Sm):Gz (b.Fz t).1 n (o+1) a:=by have d:Gz b (n+4) o a:=g.le Ab (Ad _) (Ad _);have e:Gz b (n+5) o a:=g.le Ab (Ad _) (Ad _);unfold BS.Fz;exact .ý (d.le Ab Ab (Ad _)) (.ite ((e.DB ht.data).le (Ad _) Ab (Ad _)) (.ite ((g.IM ht).le (Ad _) Ab (Ad _)) (.ite ((d.CU ht).eq rfl rfl rfl rfl rfl) ((d.CU (J3 (nm:=aWy) AA)).eq (c:={b.CU (JV aWy) with head:=b.Mw 1,mode:=4}) rfl rfl rfl rfl rfl))))
def Gz.apply{qk:DF->Bool}(g:Gz b (n+8*(4*(o+a+8)+10)+8*a+2000) o a)(c:b.mode=6->Np b)(ht:t.Sm):Gz (b.apply qk t).1 n (o+2*a+17) (a+9):=by
 have ge:∀{m},m<=n+8*(4*(o+a+8)+10)+8*a+2000->Gz b m o a:=λh=>g.le h (Ad _) (Ad _);have g0:Gz b n (o+2*a+17) (a+9):=g.le Ab Ab Ab;unfold BS.apply;refine .ite g0 (.ite (((ge (m:=n+5) Ab).Js ht).le (Ad _) Ab Ab)
  (.ite (((ge (m:=n+5) Ab).Fy ht).le (Ad _) Ab Ab)
  (.ite (((ge (m:=n+1000) Ab).Fz ht).le (Ad _) Ab Ab)
  (.ite (((ge (m:=n+1004) Ab).De ht).le (Ad _) Ab Ab)
  (.ite (((ge (m:=n+1004) Ab).FA ht).le (Ad _) Ab Ab) ?_)))))
 split;.rename_i d;exact(((ge (m:=n+1005) Ab).Gn (c d) ht).le (Ad _) Ab Ab)
 .exact .ite (g.LB ht)
   (.ite (((ge (m:=n+5) Ab).LA).le (Ad _) Ab Ab)
   (.ite (((ge (m:=n+4*a+1005) Ab).DX ht).le (Ad _) Ab Ab) g0))
end
structure ZK(m:Nat)(l l':List Item):Prop where
 sp:l'.filter AO=l.filter AO
 JR:l'.take m=l.take m
section
variable{m k j:Nat}{l l' l'':List Item}{i n:Item}{b:BS}{nm:Ah}{at_:List Be}
def ZK.refl:ZK m l l:=⟨rfl,rfl⟩
def ZK.trans(h:ZK m l l')(g:ZK m l' l''):ZK m l l'':=⟨g.sp.trans h.sp,g.JR.trans h.JR⟩
def ZK.le(h:ZK m l l')(hk:k<=m):ZK k l l':=⟨h.sp,by have:=B3 (List.take k) h.JR;rwa [CI,CI,BO hk] at this⟩
def ZK.len(h:ZK m l l')(hm:m<=l.length):m<=l'.length:=by have:=B3 List.length h.JR;rw[Ay,Ay] at this;omega
def dI(hm:m<=l.length)(hi:AO i=false):ZK m l (l++[i]):=
 ⟨by rw[Bc,Dv (by simp[hi])];simp,Bi hm⟩
def W9(hm:m<=k)(hk:∀h:k<l.length,AO l[k]=false):ZK m l (Bx l k):=by
 unfold Bx;rcases Bl k l.length with h|h
 .refine⟨?_,?_⟩
  .conv=>rhs;rw[<-Br k l,Az h]
   rw[Bc,Bc,Dv (by simp[hk h])]
  .rw[Bi (by rw[Ay];omega),CI,BO hm]
 .rw[Bf h,AR Ab,Bg];exact .refl
def aGn(hm:m<=k)(hk:∀h:k<l.length,AO l[k]=false)(hn:AO n=false):ZK m l (l.set k n):=by
 rw[B7];split
 .rename_i h;refine⟨?_,?_⟩
  .conv=>rhs;rw[<-Br k l,Az h]
   rw[Bc,Bc,Dv (a:=n) (by simp[hn]),Dv (by simp[hk h])]
  .rw[Bi (by rw[Ay];omega),CI,BO hm]
 .exact .refl
def iz(hm:m<=j)(hd:∀i∈l.drop j,AO i=false):ZK m l (l.take j):=by
 refine⟨?_,by rw[CI,BO hm]⟩;conv=>rhs;rw[<-Br j l]
 have e:(l.drop j).filter AO=[]:=List.filter_eq_nil_iff.2 λi hi=>by simp[hd i hi]
 rw[Bc,e,Bg]
def aGo(hm:m<=k)(hk:k<=l.length)(hn:AO n=false):ZK m l (l.take k++n::l.drop k):=by
 refine⟨?_,by rw[Bi (by rw[Ay];omega),CI,BO hm]⟩;conv=>rhs;rw[<-Br k l]
 rw[Bc,Bc,Dv (by simp[hn])]
def Hk(h:i.A9=1)(hn:i.name∈B1):AO i=false:=by have key:∀w∈B1,D4 1 w=false:=Ed;unfold AO;rw[h];exact key _ hn
def þ:ü=B1:=rfl
def U5(A:Ar)(l:List Ck):Prop:=∀e∈l,e.node=0\/(e.name∈B1/\(A.nd e.node).name=e.name/\(A.nd e.node).A9=1)
def U5.sub{A:Ar}{l l':List Ck}(h:U5 A l)(hs:l'.Sublist l):U5 A l':=λe he=>h e (hs.subset he)
def U5.le{A A':Ar}{l:List Ck}(h:U5 A l)(hl:Le A A')(ha:∀e∈l,e.node=0\/(A.has e.node/\(A.nd e.node).kind=4)):U5 A' l:=λe he=>by
 rcases h e he with h1|⟨h1,h2,h3⟩
 .exact .inl h1
 .rcases ha e he with a|a
  .exact .inl a
  .exact .inr ⟨h1,by rw[hl.name _ a.1];exact h2,by rw[hl.A9 _ a.1];exact h3⟩
def nm1:BS.MM 1 nm=nm:=Ac AA
def OM:(b.HQ nm at_ 1).name=nm:=by unfold BS.HQ;rw[Af Kw];exact nm1
def PO:(b.HQ nm at_ 1).A9=1:=by unfold BS.HQ;rw[Af Kw]
def rk{x:Int}{l:List Ck}(h:¬FL x l<0):x≠0/\∃k,k<l.length/\(FL x l).toNat=k/\(l.getD k Ck.zero).node=x/\l.getD k Ck.zero∈l:=by
 unfold FL at h⊢;split at h;.omega
 .rename_i h0;rw[Ac h0];rcases BY (q:=VK x) (l:=l) with⟨h1,_⟩|⟨k,hk,h1,h2,_⟩
  .omega
  .refine⟨h0,k,hk,by rw[h1];omega,?_,?_⟩;.rw[AJ,Av hk];exact CD h2
   .rw[AJ,Av hk];exact AF hk
def SJ{l:List Ck}(h:¬DS nm l<0):(l.getD (DS nm l).toNat Ck.zero)∈l/\(l.getD (DS nm l).toNat Ck.zero).node≠0/\(l.getD (DS nm l).toNat Ck.zero).name=nm:=by
 have key:∀r:List Ck,0<=Pw nm r->∃e a c,r=a++e::c/\Pw nm r=(c.length:Int)/\e.node≠0/\e.name=nm:=by
  intro r;induction r with
  |nil=>intro h;simp[Pw] at h
  |cons x t ih=>
   intro h;rw[Pw] at h⊢;split at h;.omega
   .rename_i h0;rw[Ac h0];split at h;.rename_i h1;rw[Af h1];exact⟨x,[],t,rfl,rfl,h0,h1⟩
    .rename_i h1;rw[Ac h1];obtain⟨e,a,c,h2,h3⟩:=ih h;exact⟨e,x::a,c,by rw[h2];rfl,h3⟩
 obtain⟨e,a,c,h1,h2,h3,d⟩:=key l.reverse (by unfold DS at h;omega);have hl:l=c.reverse++e::a.reverse:=by have:=B3 List.reverse h1;rw[DE] at this;rw[this];simp
 have hg:l.getD (DS nm l).toNat Ck.zero=e:=by unfold DS;rw[h2,hl,AJ,Bu AB];simp
 rw[hg];exact⟨by rw[hl];simp,h3,d⟩
def BS.rs(b:BS):List Int×Int×Int×Int×Int×Bool×Bool×Int:=(b.tm,b.GO,b.head,b.mode,b.IE,b.Ec,b.K8,b.BM)
structure dJ(m:Nat)(b c:BS):Prop where
 fm:ZK m b.Au c.Au
 ok:Ey c
 ac:U5 c.a c.A4
 le:Le b.a c.a
 rest:c.rs=b.rs
def dJ.refl(o:Ey b)(f:U5 b.a b.A4):dJ m b b:=⟨.refl,o,f,.refl,rfl⟩
def dJ.trans{b c d:BS}(h:dJ m b c)(g:dJ m c d):dJ m b d:=⟨h.fm.trans g.fm,g.ok,g.ac,h.le.trans g.le,g.rest.trans h.rest⟩
def dJ.lem{b c:BS}(h:dJ m b c)(hk:k<=m):dJ k b c:=⟨h.fm.le hk,h.ok,h.ac,h.le,h.rest⟩
def U5.aO9{A:Ar}{l:List Ck}(h:U5 A l){e:Ck}{k:Nat}(he:e.name∈B1/\(A.nd e.node).name=e.name/\(A.nd e.node).A9=1):U5 A (l.set k e):=λx hx=>by
 rcases DA hx with h1|rfl
 .exact h x h1
 .exact .inr he
def Xa{p:Int}:(b.Gm nm at_ 1 p).rs=b.rs:=by unfold BS.Gm;rw[Af Kw];rfl
def i_{p:Int}:(b.Gm nm at_ 1 p).Au=b.Au:=by unfold BS.Gm;rw[Af Kw]
def ja{p:Int}:(b.Gm nm at_ 1 p).A4=b.A4:=by unfold BS.Gm;rw[Af Kw]
def ÿ(o:Ey b)(f:U5 b.a b.A4){blk anc:Int}{far:Nat}{l:Int}{q:Nat}(hl:b.a.has l)(hm:m<=k)(hk:∀h:k<b.Au.length,AO b.Au[k]=false):dJ m b (BS.Gi blk anc far k b l q).1:=by
 obtain⟨ok,_,le⟩:=OK (blk:=blk) (anc:=anc) (far:=far) (i:=k) (l:=l) (m:=q) o hl;unfold BS.Gi at ok le⊢;simp only at ok le⊢;split at ok;.rename_i h1;rw[Af h1] at le⊢;exact⟨W9 hm hk,ok,f,le,rfl⟩
 .rename_i h1;rw[Ac h1] at le⊢;split at ok;.rename_i h2;rw[Af h2] at le⊢;exact⟨W9 hm hk,ok,f.sub CL,le,rfl⟩
  .rename_i h2;rw[Ac h2] at le⊢;obtain⟨s,kk,d,r,u,g⟩:=rk h1;rw[r] at ok le⊢;generalize b.A4.getD kk Ck.zero=en at*;have Ru:en.name∈B1:=by
    rcases f en g with h3|h3
    .omega
    .exact h3.1
   obtain⟨t,fr,l1⟩:=P5 (nm:=en.name) (at_:=en.As) (p:=anc) o Kw;have c:=Xa (b:=b) (nm:=en.name) (at_:=en.As) (p:=anc);have ea:=ja (b:=b) (nm:=en.name) (at_:=en.As) (p:=anc);have e:=i_ (b:=b) (nm:=en.name) (at_:=en.As) (p:=anc);have hn:=OM (b:=b) (nm:=en.name) (at_:=en.As);have hs:=PO (b:=b) (nm:=en.name) (at_:=en.As);generalize b.HQ en.name en.As 1=n at*;generalize b.Gm en.name en.As 1 anc=b1 at*;have f1:U5 b1.a b1.A4:=by rw[ea];exact f.le l1 o.ac
   have f2:U5 (b1.a.GC n.node l 0) b1.A4:=f1.le Hi (by rw[ea];exact WN l1 o.ac);refine⟨?_,ok,f2.aO9 ⟨Ru,?_,?_⟩,le,c⟩;.simp only;rw[e];exact aGn hm hk (Hk hs (by rw[hn];exact Ru))
   .simp only;rw[Hi.name _ fr.has,fr.name,hn]
   .simp only;rw[Hi.A9 _ fr.has,fr.A9,hs]
def jT{blk anc:Int}{far k:Nat}:∀{c:Nat} {s:BS×Int×Nat},Ey s.1->U5 s.1.a s.1.A4->s.1.a.has s.2.1->(∀j (h:j<s.1.Au.length),k<j->j<=k+c->AO s.1.Au[j]=false)->dJ (k+1) s.1 (BS.Nf blk anc far k c s).1
 |0,s,o,f,_,_=> .refl o f
 |c+1,s,o,f,hl,hs=>by
  have a1:=ÿ (m:=k+(c+1)) (k:=k+(c+1)) (blk:=blk) (anc:=anc) (far:=far) (l:=s.2.1) (q:=s.2.2) o f hl (Ad _) (λh=>hs _ h Ab Ab);obtain⟨_,h2,_⟩:=OK (blk:=blk) (anc:=anc) (far:=far) (i:=k+(c+1)) (l:=s.2.1) (m:=s.2.2) o hl;have a2:=jT (blk:=blk) (anc:=anc) (far:=far) (k:=k) (c:=c) (s:=BS.Gi blk anc far (k+(c+1)) s.1 s.2.1 s.2.2) a1.ok a1.ac h2 (λj hj h3 p=>by
   have e:(BS.Gi blk anc far (k+(c+1)) s.1 s.2.1 s.2.2).1.Au[j]?=s.1.Au[j]?:=by have:=B3 (λl=>l[j]?) a1.fm.JR;simpa only[CM (Ab:j<k+(c+1))] using this
   rw[Av hj] at e;obtain⟨g,d⟩:=Aj.1 e.symm;rw[<-d];exact hs j g h3 Ab)
  exact(a1.lem Ab).trans a2
def aA8{x:Item}(h:x∈l):∃k,∃h:k<l.length,l[k]=x:=LL h
def Za{x:Int}(hm:m<=l.length)(hs:∀i∈l,i.node=x->AO i=false)(hp:∀i∈l.take m,AO i=true):ZK m l (Ce x l):=by
 unfold Ce;split;.exact .refl
 .rename_i h;rcases BY (q:=Bt x) (l:=l) with⟨h1,_⟩|⟨k,hk,h1,h2,_⟩
  .omega
  .have e:(AD (Bt x) l).toNat=k:=by rw[h1];omega
   rw[e];have h3:=hs _ (AF hk) (CD h2);refine W9 ?_ λ_=>h3;rcases Bl k m with a|a
   .have:=hp l[k] (CS.2 ⟨k,Ab,rfl⟩);rw[this] at h3;cases h3
   .exact a
def rl{fe:Ck}{blk anc:Int}{s:BS×Int×Nat}(o:Ey s.1)(f:U5 s.1.a s.1.A4)(hfe:fe.name∈B1)(hl:m<=s.1.Au.length)(hp:∀i∈s.1.Au.take m,AO i=true)(hx:∀i∈s.1.Au,i.node=fe.node->AO i=false)(hb:∃i∈s.1.Au,AO i=true/\i.node=blk)(d:∀i∈s.1.Au.take m,i.node≠blk):dJ m s.1 (BS.IG fe blk anc s):=by
 obtain⟨ok,le⟩:=UP (fe:=fe) (blk:=blk) (anc:=anc) (s:=s) o;unfold BS.IG at ok le⊢;simp only at ok le⊢;generalize ux:s.1.place anc=pb at*;have l1:Le s.1.a (s.1.a.E1 s.2.1 pb.1 pb.2):=Jr;have y:=o.IP (Pz (n:=s.2.1) (p:=pb.1) (b:=pb.2) o.ok) l1;have f1:U5 (s.1.a.E1 s.2.1 pb.1 pb.2) s.1.A4:=f.le l1 o.ac;have z:({s.1 with a:=s.1.a.E1 s.2.1 pb.1 pb.2}:BS).tm=s.1.tm/\({s.1 with a:=s.1.a.E1 s.2.1 pb.1 pb.2}:BS).Au=s.1.Au/\({s.1 with a:=s.1.a.E1 s.2.1 pb.1 pb.2}:BS).A4=s.1.A4:=⟨rfl,rfl,rfl⟩;obtain⟨w,fr,l3⟩:=P5 (nm:=fe.name) (at_:=fe.As) (p:=blk) y Kw;have v:=Xa (b:={s.1 with a:=s.1.a.E1 s.2.1 pb.1 pb.2}) (nm:=fe.name) (at_:=fe.As) (p:=blk);have ea:=ja (b:={s.1 with a:=s.1.a.E1 s.2.1 pb.1 pb.2}) (nm:=fe.name) (at_:=fe.As) (p:=blk);have u:=i_ (b:={s.1 with a:=s.1.a.E1 s.2.1 pb.1 pb.2}) (nm:=fe.name) (at_:=fe.As) (p:=blk);have hn:=OM (b:={s.1 with a:=s.1.a.E1 s.2.1 pb.1 pb.2}) (nm:=fe.name) (at_:=fe.As);have hs:=PO (b:={s.1 with a:=s.1.a.E1 s.2.1 pb.1 pb.2}) (nm:=fe.name) (at_:=fe.As);have l2:Le s.1.a (BS.Gm {s.1 with a:=s.1.a.E1 s.2.1 pb.1 pb.2} fe.name fe.As 1 blk).a:=l1.trans l3;have f3:U5 (BS.Gm {s.1 with a:=s.1.a.E1 s.2.1 pb.1 pb.2} fe.name fe.As 1 blk).a s.1.A4:=f.le l2 o.ac;generalize BS.HQ {s.1 with a:=s.1.a.E1 s.2.1 pb.1 pb.2} fe.name fe.As 1=n at*;generalize BS.Gm {s.1 with a:=s.1.a.E1 s.2.1 pb.1 pb.2} fe.name fe.As 1 blk=b3 at*;simp only at ea u;have t:=WN l2 o.ac;obtain⟨_,l4⟩:=Kq (n:=n.node) (l:=(b3.a.nd blk).Bm) w.ok;have c:Le b3.a ((BS.Dz b3.a n.node (b3.a.nd blk).Bm).GC blk n.node 0):=l4.trans Hi;have f5:=f3.le c t;have g1:=Za (x:=fe.node) hl hx hp;have r:∃i∈Ce fe.node s.1.Au,AO i=true/\i.node=blk:=by
  obtain⟨i,h1,h2,h3⟩:=hb;have:i∈(Ce fe.node s.1.Au).filter AO:=by rw[g1.sp];exact BD.2 ⟨h1,h2⟩
  exact⟨i,(BD.1 this).1,h2,h3⟩
 have g:m<=HO (AD (Bt blk) (Ce fe.node s.1.Au)+1) (Ce fe.node s.1.Au).length:=by
  obtain⟨i,h1,h2,h3⟩:=r;obtain⟨k,hk,rfl⟩:=aA8 h1;have D:=Nk (q:=Bt blk) hk (Ak h3);have C:=(Lu (q:=Bt blk) (l:=Ce fe.node s.1.Au)).1;have B:=g1.len hl;have A:m<=k:=by
   rcases Bl k m with h|h
   .exfalso;refine d (Ce fe.node s.1.Au)[k] ?_ h3;rw[<-g1.JR];exact CS.2 ⟨k,Ab,rfl⟩
   .exact h
  unfold HO;omega
 have g2:=aGo (l:=Ce fe.node s.1.Au) (n:=n) g (Nat.min_le_right _ _) (Hk hs (by rw[hn];exact hfe));refine⟨?_,ok,?_,le,v⟩;.simp only;rw[u];exact g1.trans g2
 .simp only
  rw[ea];intro e he;rcases An.1 he with h|h
  .exact f5 e (CL.subset (AZ h))
  .rcases AE.1 h with rfl|h
   .refine .inr ⟨hfe,?_,?_⟩;.simp only;rw[c.name _ fr.has,fr.name,hn]
    .simp only;rw[c.A9 _ fr.has,fr.A9,hs]
   .exact f5 e (CL.subset (AY h))
def jb{i:Int}(hm:m<=max 1 i.toNat)(h:∀x∈l.drop (max 1 i.toNat),AO x=false):ZK m l (GQ l i):=iz hm h
def rq(o:Ey b)(f:U5 b.a b.A4)(hnm:nm∈B1)(hl:m<=b.Au.length)(hp:∀i∈b.Au.take m,AO i=true):dJ m b (b.CV nm):=by
 have ok:=cW (nm:=nm) o;unfold BS.CV at ok⊢;split
 .rename_i i hi;rw[hi] at ok;simp only at ok;split
  .rename_i h1;rw[Af h1] at ok;obtain⟨A,C,e,_,g⟩:=T0 hi;have c:AO i=false:=by have:=CD h1;exact Hk this.1 (by have h2:=this.2;simp at h2;rw[h2];exact hnm)
   have d:∀x∈C,AO x=false:=λx hx=>by have:=g x hx;rw[K0] at this;exact this.2
   have p:m<=A.length:=by
    rcases Bl A.length m with h|h
    .have:=hp i (CS.2 ⟨A.length,by rw[e] at hl⊢;omega,by simp[e]⟩);rw[c] at this;cases this
    .exact h
   have key:∀j,A.length<=j->∀x∈b.Au.drop j,AO x=false:=by
    intro j hj x hx;rw[e] at hx;have ZI:x∈(A++i::C).drop A.length:=by
     have:(A++i::C).drop j=((A++i::C).drop A.length).drop (j-A.length):=by rw[Ew];congr 1;omega
     rw[this] at hx;exact AY hx
    rw[Ra] at ZI;rcases AE.1 ZI with rfl|h
    .exact c
    .exact d x h
   refine⟨?_,ok,f,.refl,rfl⟩;simp only
   have Ny:=Y8 o nm;have r:b.CV nm={b with Au:=Hg i.node (D5 (CJ nm) Dh b.Au)}:=by unfold BS.CV;rw[hi];simp only;rw[Af h1]
   rw[r] at Ny;rcases Ny with h|⟨h0,h⟩
   .have:Hg i.node (D5 (CJ nm) Dh b.Au)=b.Au:=B3 BS.Au h;rw[this];exact .refl
   .have:Hg i.node (D5 (CJ nm) Dh b.Au)=GQ b.Au (AD (AG [nm]) b.Au):=B3 BS.Au h;rw[this];have q:(AD (AG [nm]) b.Au)=(A.length:Int):=by rw[e];exact Hv h1 λx hx=>by have:=g x hx;rw[K0] at this;exact this.1
    rw[q];exact jb Ab (key _ Ab)
  .exact .refl o f
 .exact .refl o f
def ON{U:Type}{l:List U}{x:U}{j:Nat}(h:x∈l.drop j):∃k,∃hk:k<l.length,j<=k/\l[k]=x:=by obtain⟨k,hk,e⟩:=LL h;rw[GP] at e;rw[AX] at hk;exact⟨j+k,Ab,Ab,e⟩
def R6{x:Int}(hk:0<=AD (Bt x) l):(Eb x l<0/\∀j (h:j<l.length),(AD (Bt x) l).toNat<j->AO l[j]=false)\/∃j,∃h:j<l.length,Eb x l=(j:Int)/\(AD (Bt x) l).toNat<j/\AO l[j]=true/\∀q (hq:q<l.length),(AD (Bt x) l).toNat<q->q<j->AO l[q]=false:=by
 rw[L4,Ac Ab];generalize(AD (Bt x) l).toNat=k;unfold Gl;cases hf:(l.drop (k+1)).findIdx? AO with
 |none=>
  left;refine⟨AB,λj hj hlt=>?_⟩;rw[List.findIdx?_eq_none_iff] at hf;have:=hf l[j] (by
   have e:l[j]=(l.drop (k+1))[j-(k+1)]'(by rw[AX];omega):=by rw[GP];congr 1;omega
   rw[e];exact AF _)
  simpa using this
 |some q=>right;obtain⟨h1,h2,h3⟩:=List.findIdx?_eq_some_iff_getElem.1 hf;rw[AX] at h1;refine⟨k+1+q,Ab,HC,Ab,by rw[GP] at h2;exact h2,λr hr c a=>?_⟩;have:=h3 (r-(k+1)) Ab;rw[GP] at this;have e:k+1+(r-(k+1))=r:=Ab;simp only[e] at this;simpa using this
def pB(o:Ey b)(f:U5 b.a b.A4)(hnm:nm∈B1)(hl:m<=b.Au.length)(hp:∀i∈b.Au.take m,AO i=true):dJ m b (b.round nm).2:=by
 obtain⟨ok,le⟩:=YK (nm:=nm) o;unfold BS.round at ok le⊢;simp only at ok le⊢;split;.exact rq o f hnm hl hp
 .rename_i h1;rw[Ac h1] at ok le;obtain⟨B,w,hname⟩:=SJ h1;generalize b.A4.getD (DS nm b.A4).toNat Ck.zero=fe at*;split;.rename_i h2;rw[Af h2] at ok le;exact⟨.refl,ok,f.sub CL,le,rfl⟩
  .rename_i h2;rw[Ac h2] at ok le;split;.exact .refl o f
   .rename_i h3;rw[Ac h3] at ok le;have y:fe.name∈B1:=by rw[hname];exact hnm
    have v:=f fe B;have xD:∀i∈b.Au,i.node=fe.node->AO i=false:=λi hi e=>by
     have g:=o.op i hi;rcases v with d|d
     .exact absurd d w
     .rw[e] at g;exact Hk (by rw[<-g.2.2.1,d.2.2]) (by rw[<-g.2.2.2,d.2.1];exact d.1)
    rcases BY (q:=Bt fe.node) (l:=b.Au) with⟨g,_⟩|⟨k,hk,g,d,_⟩
    .omega
    have rY:(AD (Bt fe.node) b.Au).toNat=k:=by rw[g];omega
    have D:m<=k:=by
     rcases Bl k m with h|h
     .have r:=hp b.Au[k] (CS.2 ⟨k,Ab,rfl⟩);rw[xD _ (AF hk) (CD d)] at r;cases r
     .exact h
    have r_:=R6 (x:=fe.node) (l:=b.Au) Ab;rw[rY] at r_;split
    .rename_i r;rw[Af r] at ok le;refine⟨?_,ok,f.sub CL,le,rfl⟩;simp only
     rw[VJ,Ac Ab,g];rcases r_ with⟨_,u⟩|⟨j,hj,u,_⟩
     .refine jb Ab λx hx=>?_;obtain⟨q,hq,E,rfl⟩:=ON hx;rcases Bl k q with t|t
      .exact u q hq t
      .have:q=k:=by omega
       subst this;exact xD _ (AF hk) (CD d)
     .omega
    .rename_i r;rw[Ac r] at ok le;rcases r_ with⟨u,_⟩|⟨j,hj,u,E,t,YV⟩
     .omega
     have z:(Eb fe.node b.Au).toNat=j:=by rw[u];omega
     rw[rY,z] at ok le⊢;have A:b.Au.getD j Item.zero=b.Au[j]:=by rw[AJ,Av hj];rfl
     rw[A] at ok le⊢;generalize(b.Au.getD (k-1) Item.zero).node=anc at*;have a1:=jT (blk:=b.Au[j].node) (anc:=anc) (far:=j) (k:=k) (c:=j-1 -k) (s:=(b,b.Au[j].node,(DS nm b.A4).toNat)) o f (o.op _ (AF hj)).1 (λq hq RI Ŀ=>YV q hq RI Ab);generalize BS.Nf b.Au[j].node anc j k (j-1 -k) (b,b.Au[j].node,(DS nm b.A4).toNat)=s at*;simp only at a1;have a0:=a1.fm.le (k:=m) Ab;have a2:=rl (m:=m) (fe:=fe) (blk:=b.Au[j].node) (anc:=anc) (s:=s) a1.ok a1.ac y (a0.len hl) (by rw[a0.JR];exact hp) (λi hi e=>by
      have RI:=a1.ok.op i hi;rcases v with Ŀ|Ŀ
      .exact absurd Ŀ w
      .have C:b.a.has fe.node:=by
        rcases o.ac fe B with p|p
        .exact absurd p w
        .exact p.1
       rw[e,a1.le.A9 _ C,a1.le.name _ C] at RI;exact Hk (by rw[<-RI.2.2.1,Ŀ.2.2]) (by rw[<-RI.2.2.2,Ŀ.2.1];exact Ŀ.1)) (by
      have:b.Au[j]∈s.1.Au.filter AO:=by rw[a1.fm.sp];exact BD.2 ⟨AF hj,t⟩
      exact⟨_,(BD.1 this).1,t,rfl⟩) (by
      rw[a0.JR];intro i hi e;obtain⟨q,hq,rfl⟩:=CS.1 hi;have RI:(b.Au.map Item.node)[q]'(by rw[Aw];omega)=(b.Au.map Item.node)[j]'(by rw[Aw];omega):=by simp only[Ei];exact e
      have:=(Oe o.lH).1 RI;omega)
     exact(a1.lem Ab).trans a2
def dK(hnm:nm∈B1):∀{n:Nat} {b:BS},Ey b->U5 b.a b.A4->m<=b.Au.length->(∀i∈b.Au.take m,AO i=true)->dJ m b (BS.Gd n b nm)
 |0,b,o,f,_,_=> .refl o f
 |n+1,b,o,f,hl,hp=>by
  have a1:=pB o f hnm hl hp;unfold BS.Gd;simp only
  split;.exact a1.trans (dK hnm (n:=n) a1.ok a1.ac (a1.fm.len hl) (by rw[a1.fm.JR];exact hp))
  .exact a1
def U7(o:Ey b)(f:U5 b.a b.A4)(hnm:nm∈B1)(hl:m<=b.Au.length)(hp:∀i∈b.Au.take m,AO i=true):dJ m b (b.C1 nm):=by
 have ok:=cY (nm:=nm) o;unfold BS.C1 at ok⊢;split
 .rename_i h;rw[Af h] at ok;unfold BS.FY at ok⊢;split;.exact .refl o f
  .rename_i h2;rw[Ac h2] at ok;have ht:D1 b.Au=b.Au[b.Au.length-1]'(by omega):=by have:=J9 (l:=b.Au) (n:=b.Au.length-1) Ab;rwa [(Ab:b.Au.length-1+1=b.Au.length),Bk] at this
   have h3:=CD h.1;have hsp:AO (D1 b.Au)=false:=Hk h3.1 (by have d:=h3.2;simp at d;rw[d];exact hnm);refine⟨iz ?_ ?_,ok,f,.refl,rfl⟩
   .rcases Bl (b.Au.length-1) m with c|c
    .have:=hp (D1 b.Au) (by rw[ht];exact CS.2 ⟨b.Au.length-1,Ab,rfl⟩);rw[hsp] at this;cases this
    .exact c
   .intro x hx;obtain⟨q,hq,e,rfl⟩:=ON hx;have:q=b.Au.length-1:=Ab;subst this;rw[<-ht];exact hsp
 .exact dK hnm o f hl hp
end
abbrev Eg:Item->Bool:=AG [AT]
def aG:List Ah:=[aWu,aWy,aWz,aWA,aWL,aW6,aWV,aXV,aW3,[102,114,97,109,101],aXi,[116,100],aXf,[116,104],aXj,[116,114]]
def okI(i:Item):Prop:=i.A9=1->i.name∉aG
inductive Pf:List Item->Prop
 |body (h o:Item) (h1:AG [IF] h=true) (h2:AG [Io] o=true):Pf [h,o]
 |Of (h t:Item) (h1:AG [IF] h=true) (h2:Eg t=true):Pf [h,t]
 |head (h d t:Item) (h1:AG [IF] h=true) (h2:AG [IL] d=true) (h3:Eg t=true):Pf [h,d,t]
def ŀ(S:List Item):Prop:=∀A x C,S=A++x::C->AG [wP] x=true->Il (AG [wP]) (H7 3) A.reverse=false
section
variable{U:Type}{q e s:U->Bool}{r u:List U}{x:U}
def QZ(hq:∀a,q a=true->s a=true)(he:∀a,e a=true->s a=true):∀r:List U,Il q e (r.filter s)=Il q e r
 |[]=>rfl
 |a::r=>by
  cases hs:s a with
  |true=>rw[Du hs,Il,Il,QZ hq he r]
  |false=>
   rw[Dv (by simp[hs]),QZ hq he r,Il];cases h1:q a with
   |true=>rw[hq a h1] at hs;cases hs
   |false=>
    cases h2:e a with
    |true=>rw[he a h2] at hs;cases hs
    |false=>simp
def Zb(hx:e x=false):∀u:List U,Il q e (u++x::r)=false->Il q e (u++r)=false
 |[],h=>by
  simp only[BA,Il,hx] at h⊢;split at h;.cases h
  .simpa using h
 |a::u,h=>by
  simp only[B8,Il] at h⊢;split at h;.cases h
  .rename_i h1;rw[Ac h1];split at h;.rename_i h2;rw[Af h2]
   .rename_i h2;rw[Ac h2];exact Zb hx u h
def SK:∀{r:List U},Il q e r=true->∃C i A,r=C++i::A/\q i=true/\∀y∈C,q y=false/\e y=false
 |[],h=>by cases h
 |a::r,h=>by
  rw[Il] at h;split at h;.rename_i h1;exact⟨[],a,r,rfl,h1,λy hy=>by cases hy⟩
  .rename_i h1;split at h;.cases h
   .rename_i h2;obtain⟨C,i,A,h3,c,b⟩:=SK h;refine⟨a::C,i,A,by rw[h3];rfl,c,λy hy=>?_⟩;rcases AE.1 hy with rfl|hy
    .exact⟨by simpa using h1,by simpa using h2⟩
    .exact b y hy
end
section
variable{P l l' A C:List Item}{n m k j:Nat}{i x:Item}{w:Int}
def Ca{ws:List Ah}:AG ws i=true↔i.A9=1/\i.name∈ws:=aQo
def Zc{ws:List Ah}(h:AG ws i=true)(hw:∀w∈ws,D4 1 w=true):AO i=true:=by have:=Ca.1 h;unfold AO;rw[this.1];exact hw _ this.2
def spP(h:AG [wP] i=true):AO i=true:=Zc h Ed
def spT(h:Eg i=true):AO i=true:=Zc h Ed
def spE(h:H7 3 i=true):AO i=true:=by
 unfold H7 at h;rw[Ac AA,Ac AA] at h;split at h;.exact h
 .simp only[JY,Bb] at h;rcases h with(h|⟨h,_⟩)|⟨_,h⟩
  .exact Zc h Ed
  .exact absurd (CD h) AA
  .exact Zc h Ed
def aKi(hs:w=1\/w=2\/w=3)(h:Eg i=true):H7 w i=true:=by have h1:=Ca.1 h;unfold H7;rw[Ac Ab,Ac Ab,Ac Ab];have:AG Pq i=true:=Ca.2 ⟨h1.1,by have h2:=h1.2;simp at h2;rw[h2];decide⟩;rw[this];rfl
def aCC:Il (AG [wP]) (H7 3) (l.filter AO).reverse=Il (AG [wP]) (H7 3) l.reverse:=by rw[<-List.filter_reverse];exact QZ (λa=>spP) (λa=>spE) _
def ŀ.JR(h:ŀ (A++C)):ŀ A:=λB x D e hx=>h B x (D++C) (by rw[e];simp) hx
def ŀ.rem(h:ŀ (A++x::C))(hx:H7 3 x=false):ŀ (A++C):=by
 intro B y D e hy;rcases Ń.1 e with⟨Z,h1,h2⟩|⟨Z,h1,h2⟩
 .have:=h (A++x::Z) y D (by rw[h2];simp) hy;rw[h1];rw[EO,ES,A6,HX] at this;rw[EO];exact Zb hx _ this
 .cases Z with
  |nil=>rw[Bg] at h1;rw[BA] at h2;have:=h (A++[x]) y D (by rw[<-h2];simp) hy;rw[EO,Hy] at this;rw[<-h1];exact Zb hx [] this
  |cons z Z=>simp only[B8,Cs] at h2;exact h B y (Z++x::C) (by rw[h1,h2.1];simp) hy
def ŀ.push(h:ŀ A)(hx:AG [wP] x=true->Il (AG [wP]) (H7 3) A.reverse=false):ŀ (A++[x]):=by
 intro B y D e hy;rcases Ń.1 e with⟨Z,h1,h2⟩|⟨Z,h1,h2⟩
 .cases Z with
  |nil=>simp only[BA,Cs] at h2;rw[h1,Bg];exact hx (by rw[h2.1];exact hy)
  |cons z Z=>simp at h2
 .cases Z with
  |nil=>simp only[BA,Cs] at h2;rw[Bg] at h1;rw[<-h1];exact hx (by rw[<-h2.1];exact hy)
  |cons z Z=>simp only[B8,Cs] at h2;exact h B y Z (by rw[h1,h2.1]) hy
def Pf.sp(p:Pf P):∀i∈P,AO i=true:=by
 have h1:∀{i},AG [IF] i=true->AO i=true:=λh=>Zc h Ed;have h2:∀{i},AG [Io] i=true->AO i=true:=λh=>Zc h Ed;have h3:∀{i},AG [IL] i=true->AO i=true:=λh=>Zc h Ed;intro i hi;cases p with
 |body h o a b=>simp at hi;rcases hi with rfl|rfl;exact h1 a;exact h2 b
 |Of h o a b=>simp at hi;rcases hi with rfl|rfl;exact h1 a;exact spT b
 |head h d t a b c=>simp at hi;rcases hi with rfl|rfl|rfl;exact h1 a;exact h3 b;exact spT c
def HT:List Ah:=[aWu,aWy,aWz,aWw]
def Pf.nm(p:Pf P):∀i∈P,i.A9=1/\i.name∈HT:=by
 have key:∀{w} {i:Item},AG [w] i=true->w∈HT->i.A9=1/\i.name∈HT:=λh hw=>by have h1:=Ca.1 h;have h2:=h1.2;simp at h2;exact⟨h1.1,by rw[h2];exact hw⟩
 intro i hi;cases p with
 |body h o a b=>simp at hi;rcases hi with rfl|rfl;exact key a AA;exact key b AA
 |Of h o a b=>simp at hi;rcases hi with rfl|rfl;exact key a AA;exact key b AA
 |head h d t a b c=>simp at hi;rcases hi with rfl|rfl|rfl;exact key a AA;exact key b AA;exact key c AA
def Pf.len(p:Pf P):2<=P.length:=by cases p<;>simp
def Pf.aKj(p:Pf P):∃h r,P=h::r/\AG [IF] h=true:=by cases p with
 |body h o a b=>exact⟨_,_,rfl,a⟩
 |Of h o a b=>exact⟨_,_,rfl,a⟩
 |head h d t a b c=>exact⟨_,_,rfl,a⟩
def Pf.last(p:Pf P):∃B z,P=B++[z]/\(AG [Io] z=true\/Eg z=true):=by cases p with
 |body h o a b=>exact⟨[h],o,rfl,.inl b⟩
 |Of h o a b=>exact⟨[h],o,rfl,.inr b⟩
 |head h d t a b c=>exact⟨[h,d],t,rfl,.inr c⟩
structure DL(P l:List Item)(n:Nat):Prop where
 pf:Pf P
 JR:l.take P.length=P
 v:∀i∈(l.filter AO).drop P.length,okI i
 Ā:(l.filter AO).countP Eg=n
 GR:ŀ (l.filter AO)
def DL.len(d:DL P l n):P.length<=l.length:=by have:=B3 List.length d.JR;rw[Ay] at this;omega
def DL.split(d:DL P l n):l=P++l.drop P.length:=by conv=>lhs;rw[<-Br P.length l,d.JR]
def DL.uY(d:DL P l n):l.filter AO=P++(l.drop P.length).filter AO:=by
 conv=>lhs;rw[d.split]
 rw[Bc,Hn.2 (λi hi=>d.pf.sp i hi)]
def DL.v'(d:DL P l n):∀i∈l.drop P.length,AO i=true->okI i:=λi hi hs=>d.v i (by rw[d.uY,Ra];exact BD.2 ⟨hi,hs⟩)
def DL.ā(d:DL P l n):∀i∈l.take P.length,AO i=true:=by rw[d.JR];exact d.pf.sp
def DL.fm(d:DL P l n)(h:ZK P.length l l'):DL P l' n:=⟨d.pf,h.JR.trans d.JR,by rw[h.sp];exact d.v,by rw[h.sp];exact d.Ā,by rw[h.sp];exact d.GR⟩
def DL.take(d:DL P l n)(hj:P.length<=j)(ht:∀i∈l.drop j,Eg i=false):DL P (l.take j) n:=by
 have e:l.filter AO=(l.take j).filter AO++(l.drop j).filter AO:=by rw[<-Bc,Br]
 have hv:=d.v;have hc:=d.Ā;have hp:=d.GR;rw[e] at hv hc hp;refine⟨d.pf,by rw[CI,BO hj];exact d.JR,λi hi=>hv i ?_,?_,hp.JR⟩;.rw[Jf];exact B2 _ hi
 .have e0:((l.drop j).filter AO).countP Eg=0:=Ho.2 λi hi=>by rw[ht i (BD.1 hi).1];simp
  rw[JL,e0] at hc;exact hc
def DL.drop(d:DL P l n)(hk:P.length<=k)(h1:∀h:k<l.length,Eg l[k]=false/\H7 3 l[k]=false):DL P (Bx l k) n:=by
 rcases Bl k l.length with XF|IS
 rotate_left;.unfold Bx;rw[Bf IS,AR Ab,Bg];exact d
 cases a:AO l[k] with
 |false=>exact d.fm (W9 hk λ_=>a)
 |true=>
  obtain⟨ht,he⟩:=h1 XF;have e:l.filter AO=(l.take k).filter AO++l[k]::(l.drop (k+1)).filter AO:=by
   conv=>lhs;rw[<-Br k l,Az XF]
   rw[Bc,Du a]
  have b:(Bx l k).filter AO=(l.take k).filter AO++(l.drop (k+1)).filter AO:=by unfold Bx;rw[Bc]
  have hv:=d.v;have hc:=d.Ā;have hp:=d.GR;rw[e] at hv hc hp;refine⟨d.pf,?_,?_,?_,?_⟩;.unfold Bx;rw[Bi (by rw[Ay];omega),CI,BO hk];exact d.JR
  .rw[b];intro i hi;refine hv i ?_;have hl:P.length<=((l.take k).filter AO).length:=by
    have:(l.take k).filter AO=P++((l.take k).drop P.length).filter AO:=by
     have h3:l.take k=P++(l.take k).drop P.length:=by conv=>lhs;rw[<-Br P.length (l.take k),CI,BO hk,d.JR]
     conv=>lhs;rw[h3]
     rw[Bc,Hn.2 (λi hi=>d.pf.sp i hi)]
    rw[this,Ao];omega
   rw[OY hl] at hi⊢;rcases An.1 hi with h|h
   .exact B2 _ h
   .exact BI _ (OW _ h)
  .rw[b,JL];rw[JL,List.countP_cons_of_neg (by rw[ht];simp)] at hc;exact hc
  .rw[b];exact hp.rem he
def DL.aCD(d:DL P l n)(hi:okI i)(hp:AG [wP] i=true->Il (AG [wP]) (H7 3) l.reverse=false):DL P (l++[i]) (n+if Eg i=true then 1 else 0):=by
 cases hs:AO i with
 |false=>
  have:Eg i=false:=by
   cases h:Eg i with
   |false=>rfl
   |true=>rw[spT h] at hs;cases hs
  rw[this];exact d.fm (dI d.len hs)
 |true=>
  have e:(l++[i]).filter AO=l.filter AO++[i]:=by rw[Bc,Du hs];rfl
  refine⟨d.pf,by rw[Bi d.len];exact d.JR,?_,?_,?_⟩
  .rw[e];intro x hx;rw[Jf] at hx;rcases An.1 hx with h|h
   .exact d.v x h
   .have:=AY h;simp at this;rw[this];exact hi
  .rw[e,JL,d.Ā];congr 1
   rw[List.countP_singleton]
  .rw[e];exact d.GR.push λh=>by rw[aCC];exact hp h
def DL.push(d:DL P l n)(hi:okI i)(ht:Eg i=false)(hp:AG [wP] i=true->Il (AG [wP]) (H7 3) l.reverse=false):DL P (l++[i]) n:=by have:=d.aCD hi hp;rw[ht] at this;exact this
def DL.aKk(d:DL P l n)(ht:Eg i=true):DL P (l++[i]) (n+1):=by
 have h1:=Ca.1 ht;have h2:=h1.2;simp at h2;have:=d.aCD (i:=i) (λ_=>by rw[h2];decide) (λh=>by have h3:=(Ca.1 h).2;simp at h3;rw[h2] at h3;exact absurd h3 AA)
 rw[ht] at this;exact this
def jU{q:Item->Bool}(d:DL P l n)(a:∀i∈P,q i=false)(hk:k<l.length)(hq:q l[k]=true):P.length<=k:=by
 rcases Bl k P.length with h|h
 .exfalso;have:l[k]∈P:=by rw[<-d.JR];exact CS.2 ⟨k,Ab,rfl⟩
  rw[a _ this] at hq;cases hq
 .exact h
def DL.sc{q:Item->Bool}(d:DL P l n)(hs:w=1\/w=2\/w=3)(a:∀i∈P,q i=false)(hq:∀i,q i=true->Eg i=false)(h:Il q (H7 w) l.reverse=true):0<=AD q l/\DL P (GQ l (AD q l)) n:=by
 obtain⟨C,i,A,e,h1,h2⟩:=SK h;have el:l=A.reverse++i::C.reverse:=by have:=B3 List.reverse e;rw[DE] at this;rw[this];simp
 have b:AD q l=(A.reverse.length:Int):=by rw[el];exact Hv h1 λx hx=>(h2 x (Uk.1 hx)).1
 have hpos:P.length<=A.reverse.length:=jU d a (k:=A.reverse.length) (by rw[el];simp) (by
  have:l[A.reverse.length]'(by rw[el];simp)=i:=by simp[el]
  rw[this];exact h1)
 refine⟨Ab,?_⟩;have hl:=d.pf.len;unfold GQ;rw[b,(Ab:max 1 ((A.reverse.length:Int)).toNat=A.reverse.length)];refine d.take hpos λx hx=>?_;rw[el,Ra] at hx;rcases AE.1 hx with rfl|hx
 .exact hq _ h1
 .cases ht:Eg x with
  |false=>rfl
  |true=>have:=(h2 x (Uk.1 hx)).2;rw[aKi hs ht] at this;cases this
def Pf.not(p:Pf P){ws:List Ah}(h:∀w∈ws,w∉HT):∀i∈P,AG ws i=false:=λi hi=>by
 cases h1:AG ws i with
 |false=>rfl
 |true=>exact absurd (p.nm i hi).2 (h _ (Ca.1 h1).2)
def Zd{ws:List Ah}(h:AT∉ws)(h1:AG ws i=true):Eg i=false:=by
 cases h2:Eg i with
 |false=>rfl
 |true=>have h3:=(Ca.1 h2).2;simp at h3;have a:=(Ca.1 h1).2;rw[h3] at a;exact absurd a h
def DL.T3(d:DL P l n){s:Ah}:DL P (D5 (CJ s) Dh l) n:=by
 rw[Sr];have hu:∀i∈P,CJ s i=true:=λi hi=>by have:=(d.pf.nm i hi).2;have key:∀w∈HT,w∉Fl:=AA;exact Ak (.inr (.inl (key _ this)))
 have hl:=d.len;have h2:=d.pf.len;have h1:(P.length:Int)-1<=AD (CJ s) l:=by
  have hk:P.length-1<l.length:=Ab;have:l[P.length-1]∈P:=by have h3:l[P.length-1]∈l.take P.length:=CS.2 ⟨P.length-1,Ab,rfl⟩;rwa [d.JR] at h3
  have:=Nk (q:=CJ s) hk (hu _ this);omega
 unfold GQ;refine d.take Ab λi hi=>?_;obtain⟨k,hk,h3,rfl⟩:=ON hi;have f:CJ s l[k]=false:=by
  rcases BY (q:=CJ s) (l:=l) with⟨b,_⟩|⟨j,hj,b,_,a⟩
  .omega
  .exact a k hk Ab
 cases b:Eg l[k] with
 |false=>rfl
 |true=>have a:=Ca.1 b;have c:=a.2;simp at c;have:CJ s l[k]=true:=Ak (.inr (.inl (by rw[c];decide)));rw[this] at f;cases f
def DL.FY(d:DL P l n)(hk:P.length<l.length)(ht:Eg (D1 l)=false):DL P (l.take (l.length-1)) n:=by refine d.take Ab λi hi=>?_;obtain⟨k,hk,h3,rfl⟩:=ON hi;have e:k=l.length-1:=Ab;have:=J9 (l:=l) (n:=l.length-1) Ab;rw[(Ab:l.length-1+1=l.length),Bk] at this;subst e;rw[<-this];exact ht
end
structure Cm(b:BS):Prop where
 ok:Ey b
 ac:U5 b.a b.A4
 Ł:b.GO≠0->b.a.has b.GO/\(b.a.nd b.GO).A9=1/\(b.a.nd b.GO).name=aWU
 fo:b.Ec=false
 fr:b.K8=false
 va:∀m∈b.tm,m=7\/m=18
structure Me(b:BS):Prop where
 has:b.a.has b.head
 kind:(b.a.nd b.head).kind=4
 A9:(b.a.nd b.head).A9=1
 name:(b.a.nd b.head).name=IL
structure Kp(b c:BS):Prop where
 ok:Ey c
 ac:U5 c.a c.A4
 le:Le b.a c.a
 rest:c.rs=b.rs
structure Dp(P:List Item)(q:Int)(T:List Int)(b:BS):Prop where
 cm:Cm b
 hd:Me b
 d:DL P b.Au T.length
 md:b.mode=q
 tme:b.tm=T
section
variable{P:List Item}{q:Int}{T:List Int}{m k j n:Nat}{b c d:BS}{nm x:Ah}{l:List Be}{t:DF}{sp h:Int}{i:Item}
def DO:c.rs=b.rs↔c.tm=b.tm/\c.GO=b.GO/\c.head=b.head/\c.mode=b.mode/\c.IE=b.IE/\c.Ec=b.Ec/\c.K8=b.K8/\c.BM=b.BM:=by unfold BS.rs;simp only[Mj]
def Kp.refl(o:Cm b):Kp b b:=⟨o.ok,o.ac,.refl,rfl⟩
def Kp.trans(h:Kp b c)(g:Kp c d):Kp b d:=⟨g.ok,g.ac,h.le.trans g.le,g.rest.trans h.rest⟩
def dJ.kp(h:dJ m b c):Kp b c:=⟨h.ok,h.ac,h.le,h.rest⟩
def Cm.go(o:Cm b)(h:Kp b c):Cm c:=by obtain⟨f,r2,s,r,p,e,a,g⟩:=DO.1 h.rest;refine⟨h.ok,h.ac,λhf=>?_,by rw[e];exact o.fo,by rw[a];exact o.fr,by rw[f];exact o.va⟩;rw[r2] at hf⊢;obtain⟨h1,h2,h3⟩:=o.Ł hf;exact⟨h.le.has _ h1,by rw[h.le.A9 _ h1];exact h2,by rw[h.le.name _ h1];exact h3⟩
def Me.le(o:Me b)(hl:Le b.a c.a)(e:c.head=b.head):Me c:=⟨by rw[e];exact hl.has _ o.has,by rw[e,hl.kind _ o.has];exact o.kind,by rw[e,hl.A9 _ o.has];exact o.A9,by rw[e,hl.name _ o.has];exact o.name⟩
def Me.go(o:Me b)(h:Kp b c):Me c:=o.le h.le (DO.1 h.rest).2.2.1
def Dp.go(o:Dp P q T b)(h:Kp b c)(a:DL P c.Au T.length):Dp P q T c:=⟨o.cm.go h,o.hd.go h,a,(DO.1 h.rest).2.2.2.1.trans o.md,(DO.1 h.rest).1.trans o.tme⟩
def Dp.fm(o:Dp P q T b)(h:dJ P.length b c):Dp P q T c:=o.go h.kp (o.d.fm h.fm)
def qM(o:Cm b){ol:List Item}(hs:ol.Sublist b.Au):Kp b {b with Au:=ol}:=⟨o.ok.Ky hs,o.ac,.refl,rfl⟩
def kpE(o:Cm b)(h1:c.a=b.a)(h3:c.Au=b.Au)(e:c.A4=b.A4)(h2:c.rs=b.rs):Kp b c:=⟨o.ok.of_eq h1 (DO.1 h2).2.2.2.2.2.2.2 h3 e,by rw[h1,e];exact o.ac,by rw[h1];exact .refl,h2⟩
def Dp.eq(o:Dp P q T b)(h1:c.a=b.a)(h3:c.Au=b.Au)(e:c.A4=b.A4)(h2:c.rs=b.rs):Dp P q T c:=o.go (kpE o.cm h1 h3 e h2) (by rw[h3];exact o.d)
def LU:(b.Cu nm l sp).rs=b.rs:=by
 unfold BS.Cu BS.Gm;split;.rfl
 .rfl
def GG(o:Cm b):Kp b (b.Cu nm l sp):=⟨YF o.ok,by rw[HS];exact o.ac.le PC o.ok.ac,PC,LU⟩
def OO:((b.Cu nm l 1).a.nd (b.a.len+1)).name=nm/\((b.Cu nm l 1).a.nd (b.a.len+1)).A9=1/\(b.Cu nm l 1).a.has (b.a.len+1)/\((b.Cu nm l 1).a.nd (b.a.len+1)).kind=4:=by
 have h0:=YG (b:=b) (nm:=nm) (at_:=l) (sp:=1) Kw;refine⟨?_,?_,h0⟩<;>unfold BS.Cu BS.Gm<;>rw[Af Kw]<;>simp only<;>rw[Af Kw]<;>simp only
 .have h1:=QL (A:=b.a) (d:=b.KL (b.place 0).1) (sp:=1) (nm:=BS.MM 1 nm) (l:=l.map (D2 1));rw[Jr.name _ h1.1,h1.2.2.2.1,nm1]
 .have h1:=QL (A:=b.a) (d:=b.KL (b.place 0).1) (sp:=1) (nm:=BS.MM 1 nm) (l:=l.map (D2 1));rw[Jr.A9 _ h1.1,h1.2.2.1]
def PQ(o:Cm b){r:Int}:Kp b (b.Kx r):=by
 have hl:Le b.a (b.Kx r).a:=by unfold BS.Kx;exact(cV o.ok.ok (TK o.ok (.inl rfl)).1).2
 exact⟨yN o.ok,o.ac.le hl o.ok.ac,hl,rfl⟩
def Jb(o:Cm b){s:Ah}:Kp b (b.DB s h):=by
 have hl:Le b.a (b.DB s h).a:=by
  unfold BS.DB;simp only
  split;.exact(MN o.ok.ok).2
  .exact(MN o.ok.ok).2
 exact⟨YI o.ok,o.ac.le hl o.ok.ac,hl,rfl⟩
def Ze(o:Cm b):Kp b (b.FD l h):=by
 have h1:=oA (l:=l) (h:=h) o.ok;unfold BS.FD at h1⊢;split;.rename_i hk;rw[Af hk] at h1;exact⟨h1,o.ac.le QM o.ok.ac,QM,rfl⟩
 .exact .refl o
def Dp.Kx(o:Dp P q T b){r:Int}:Dp P q T (b.Kx r):=o.go (PQ o.cm) o.d
def Dp.DB(o:Dp P q T b){s:Ah}:Dp P q T (b.DB s h):=o.go (Jb o.cm) o.d
def dL:(b.FD l h).Au=b.Au:=by unfold BS.FD;split<;>rfl
def Dp.FD(o:Dp P q T b):Dp P q T (b.FD l h):=o.go (Ze o.cm) (by rw[dL];exact o.d)
def KS{ws:List Ah}:AG ws (b.HQ nm l 1)=decide (nm∈ws):=by unfold AG;rw[OM,PO];simp
def Dp.Mm(o:Dp P q T b)(h1:nm∉aG)(h2:nm≠AT)(h3:nm=wP->Il (AG [wP]) (H7 3) b.Au.reverse=false):Dp P q T (b.Cu nm l 1):=by
 refine o.go (GG o.cm) ?_;rw[EJ];refine o.d.push (λ_=>by rw[OM];exact h1) ?_ λh=>h3 ?_;.rw[Eg,KS];simpa using h2
 .rw[KS] at h;simpa using h
def Dp.aKl(o:Dp P q T b)(hs:sp=2\/sp=3):Dp P q T (b.Cu nm l sp):=by
 have hk:BS.L6 sp:=by unfold BS.L6;omega
 refine o.go (GG o.cm) ?_;have e:(b.Cu nm l sp).Au=b.Au++[b.HQ nm l sp]:=by
  unfold BS.Cu;rw[Af hk];have:(b.Gm nm l sp (b.place 0).1).Au=b.Au:=by unfold BS.Gm;rw[Af hk]
  simp only[this]
 have es:(b.HQ nm l sp).A9=sp:=by unfold BS.HQ;rw[Af hk]
 have no:∀ws,AG ws (b.HQ nm l sp)=false:=λws=>by unfold AG;rw[es];exact Ap λh=>by have:=h.1;omega
 rw[e];exact o.d.push (λh=>by rw[es] at h;omega) (no _) λh=>by rw[no] at h;cases h
def Q0(h1:1<=b.Au.length):(b.Cu nm l 1).FY.Au=b.Au:=by unfold BS.FY;rw[EJ];rw[Ac Et];simp only[Ao,AS,MD];rw[Bi (Ad _),Bk]
def uZ(o:Cm b):Kp b b.FY:=by
 unfold BS.FY;split;.exact .refl o
 .exact qM o (Cf _ _)
def T4(o:Cm b):Kp b (b.Cu nm l 1).FY:=(GG o).trans (uZ (o.go (GG o)))
def Dp.eD(o:Dp P q T b):Dp P q T (b.Cu nm l 1).FY:=o.go (T4 o.cm) (by rw[Q0 (by have:=o.d.len;have:=o.d.pf.len;omega)];exact o.d)
def aKm(a:Item)(h:AG [wP] a=true):CJ wP a=true:=by have:=(Ca.1 h).2;simp at this;exact Ak (.inr (.inr this))
def Dp.B4(o:Dp P q T b):Dp P q T b.B4/\Il (AG [wP]) (H7 3) b.B4.Au.reverse=false:=by
 unfold BS.B4;split
 .rename_i h;obtain⟨h0,g⟩:=o.d.sc (.inr (.inr rfl)) (o.d.pf.not AA) (λi hi=>Zd AA hi) h;rw[Nl aKm h0];refine⟨o.go (qM o.cm Ng) g,?_⟩;simp only
  obtain⟨C,i,A,e,h1,h2⟩:=SK h;have el:b.Au=A.reverse++i::C.reverse:=by have:=B3 List.reverse e;rw[DE] at this;rw[this];simp
  have a:AD (AG [wP]) b.Au=(A.reverse.length:Int):=by rw[el];exact Hv h1 λx hx=>(h2 x (Uk.1 hx)).1
  have hpos:=jU o.d (o.d.pf.not (ws:=[wP]) AA) (k:=A.reverse.length) (by rw[el];simp) (by
   have:b.Au[A.reverse.length]'(by rw[el];simp)=i:=by simp[el]
   rw[this];exact h1)
  have hl:=o.d.pf.len;have f:GQ b.Au (AD (AG [wP]) b.Au)=A.reverse:=by unfold GQ;rw[a,(Ab:max 1 ((A.reverse.length:Int)).toNat=A.reverse.length),el,E5]
  rw[f,<-aCC];refine o.d.GR (A.reverse.filter AO) i (C.reverse.filter AO) ?_ h1;rw[el,Bc,Du (spP h1)]
 .rename_i h;exact⟨o,by simpa using h⟩
def Dp.block(o:Dp P q T b)(h1:nm∉aG)(h2:nm≠AT):Dp P q T (b.B4.Cu nm l 1):=o.B4.1.Mm h1 h2 λ_=>o.B4.2
def Dp.Ds(o:Dp P q T b){sc:Int}(hs:sc=1\/sc=2\/sc=3)(h1:nm∉HT)(hx:nm∉Fl\/nm=x)(h:Il (AG [nm]) (H7 sc) b.Au.reverse=true):Dp P q T (b.Ds nm x):=by
 have e:AT∉[nm]:=by rintro h;simp at h;rw[<-h] at h1;exact h1 AA
 obtain⟨h0,f⟩:=o.d.sc hs (o.d.pf.not (by simpa using h1)) (λi hi=>Zd e hi) h;unfold BS.Ds;rw[Nl (λa ha=>by have:=(Ca.1 ha).2;simp at this;exact Ak (.inr (by rw[this];exact hx))) h0]
 exact o.go (qM o.cm Ng) f
def sd(o:Cm b)(hn:nm∈B1):Kp b (b.Er nm l):=by
 refine⟨cU o.ok,?_,PC,?_⟩
 .unfold BS.Er;simp only
  obtain⟨l',h1,h2⟩:=TL (l:=(b.Cu nm l 1).A4) (e:=⟨b.a.len+1,nm,l⟩);rw[h2];intro e he;rcases An.1 he with h|h
  .have:=h1.subset h;rw[HS] at this;exact(o.ac.le PC o.ok.ac) e this
  .simp at h;subst h;exact .inr ⟨hn,OO.1,OO.2.1⟩
 .unfold BS.Er;exact LU
def u0:(b.Er nm l).Au=b.Au++[b.HQ nm l 1]:=by unfold BS.Er;exact EJ
def jV(hn:nm∈B1)(hm:m<=b.Au.length):ZK m b.Au (b.Cu nm l 1).Au:=by rw[EJ];exact dI hm (Hk PO (by rw[OM];exact hn))
def Dp.Er(o:Dp P q T b)(hn:nm∈B1):Dp P q T (b.Er nm l):=by refine o.go (sd o.cm hn) (o.d.fm ?_);have:=jV (b:=b) (l:=l) hn o.d.len;rw[EJ] at this;rw[u0];exact this
def jc{m:Nat}:∀{es:List Ck} {b:BS},Cm b->(∀e∈es,e.name∈B1)->m<=b.Au.length->ZK m b.Au (BS.JG es b).2.Au/\Le b.a (BS.JG es b).2.a/\(BS.JG es b).2.rs=b.rs/\∀e∈(BS.JG es b).1,e.name∈B1/\((BS.JG es b).2.a.nd e.node).name=e.name/\((BS.JG es b).2.a.nd e.node).A9=1
 |[],b,_,_,_=>⟨.refl,.refl,rfl,λe he=>by cases he⟩
 |e::es,b,o,hf,hm=>by
  have f:=GG (nm:=e.name) (l:=e.As) (sp:=1) o;have f1:=jV (b:=b) (l:=e.As) (hf e AB) hm;obtain⟨h1,h2,h3,g⟩:=jc (m:=m) (es:=es) (b:=b.Cu e.name e.As 1) (o.go f) (λx hx=>hf x (by simp[hx])) (f1.len hm);have hn:=OO (b:=b) (nm:=e.name) (l:=e.As);rw[BS.JG];refine⟨f1.trans h1,f.le.trans h2,h3.trans f.rest,λx hx=>?_⟩;rcases AE.1 hx with rfl|hx
  .exact⟨hf e AB,by simp only;rw[h2.name _ hn.2.2.1];exact hn.1,by simp only;rw[h2.A9 _ hn.2.2.1];exact hn.2.1⟩
  .exact g x hx
def Zf(o:Cm b)(hm:m<=b.Au.length):dJ m b b.AL:=by
 have hu:∀e∈b.A4.drop b.NA,e.name∈B1:=by
  intro e he;obtain⟨k,hk,f⟩:=LL he;rw[GP] at f;rw[AX] at hk;have h1:b.settled e=false:=by
   rcases BY (q:=b.settled) (l:=b.A4) with⟨h2,h3⟩|⟨n,hn,h2,_,a⟩
   .exact h3 e (AY he)
   .rw[<-f];refine a _ Ab ?_;unfold BS.NA;rw[h2];omega
  have h2:e.node≠0:=λh3=>by have:=VN (b:=b) (e:=e);rw[h1] at this;simp[h3] at this
  rcases o.ac e (AY he) with h3|h3
  .exact absurd h3 h2
  .exact h3.1
 obtain⟨h1,h2,h3,a⟩:=jc (m:=m) o hu hm;have ok:=YJ o.ok;refine⟨h1,ok,?_,h2,h3⟩;intro e he;unfold BS.AL at he;simp only at he;rcases An.1 he with h|h
 .exact(o.ac.le h2 o.ok.ac) e (AZ h)
 .exact .inr (a e h)
def Dp.AL(o:Dp P q T b):Dp P q T b.AL:=o.fm (Zf o.cm o.d.len)
def Dp.C1(o:Dp P q T b)(hn:nm∈B1):Dp P q T (b.C1 nm):=o.fm (U7 o.cm.ok o.cm.ac hn o.d.len o.d.ā)
def Dp.CV(o:Dp P q T b)(h1:nm≠AT)(h2:nm≠Io)(h3:nm≠IF):Dp P q T (b.CV nm):=by
 have law:=Y8 o.cm.ok nm;by_cases hb:b.CV nm=b;.rw[hb];exact o
 rcases law with h|⟨h0,h⟩
 .exact absurd h hb
 unfold BS.CV at hb;split at hb
 .rename_i i hi;split at hb
  .rename_i hq;obtain⟨A,C,e,_,u⟩:=T0 hi;have a:∀x∈C,AG [nm] x=false/\AO x=false:=λx hx=>by have:=u x hx;rw[K0] at this;exact this
   have D:AD (AG [nm]) b.Au=(A.length:Int):=by rw[e];exact Hv hq λx hx=>(a x hx).1
   have ZH:=(Ca.1 hq).2;simp at ZH;have hl:=o.d.pf.len;have hlen:=o.d.len;have v:P.length<=A.length:=by
    rcases Bl A.length P.length with hlt|IS
    .exfalso;obtain⟨B,z,g,hz⟩:=o.d.pf.last;have s:P.length=B.length+1:=by rw[g];simp
     have hk:B.length<b.Au.length:=Ab;have uh:b.Au[B.length]=z:=by
      have p:(b.Au.take P.length)[B.length]'(by rw[Ay];omega)=P[B.length]'(by omega):=by simp only[o.d.JR]
      rw[It] at p;rw[p];simp[g]
     have Lk:=o.d.pf.sp z (by rw[g];simp);rcases Bl A.length B.length with y|y
     .have:z∈C:=by
       have f:b.Au[B.length]=(A++i::C)[B.length]'(by rw[<-e];exact hk):=by simp only[<-e]
       rw[<-uh,f,ł Ab];obtain⟨r,hr⟩:∃r,B.length-A.length=r+1:=⟨B.length-A.length-1,Ab⟩;simp only[hr,JK];exact AF _
      rw[(a z this).2] at Lk;cases Lk
     .have w:A.length=B.length:=by omega
      have:z=i:=by
       have f:b.Au[B.length]=(A++i::C)[B.length]'(by rw[<-e];exact hk):=by simp only[<-e]
       rw[<-uh,f];simp[<-w]
      rw[this] at hz;rcases hz with hz|hz
      .have:=(Ca.1 hz).2;simp at this;exact h2 (by rw[<-ZH,this])
      .have:=(Ca.1 hz).2;simp at this;exact h1 (by rw[<-ZH,this])
    .exact IS
   rw[h];refine o.go (qM o.cm Ng) ?_;simp only
   unfold GQ;rw[D,(Ab:max 1 ((A.length:Int)).toNat=A.length)];refine o.d.take v λx hx=>?_;rw[e,Ra] at hx;rcases AE.1 hx with rfl|hx
   .exact Zd (by simpa using CZ h1) hq
   .cases ht:Eg x with
    |false=>rfl
    |true=>have:=(a x hx).2;rw[spT ht] at this;cases this
  .exact absurd rfl hb
 .exact absurd rfl hb
def Dp.T3(o:Dp P q T b){s:Ah}:Dp P q T {b with Au:=D5 (CJ s) Dh b.Au}:=o.go (qM o.cm Dd) o.d.T3
def DL.Ce(o:Dp P q T b){y:Int}(h:∀i∈b.Au,i.node=y->i.name∉HT/\Eg i=false/\H7 3 i=false):DL P (Ce y b.Au) T.length:=by
 unfold Am.Ce;split;.exact o.d
 .rename_i h1;rcases BY (q:=Bt y) (l:=b.Au) with⟨h2,_⟩|⟨k,hk,h2,h3,_⟩
  .omega
  .have e:=h _ (AF hk) (CD h3);rw[(Ab:(AD (Bt y) b.Au).toNat=k)];refine o.d.drop ?_ λ_=>e.2;rcases Bl k P.length with a|a
   .exfalso;have:b.Au[k]∈P:=by have f:b.Au[k]∈b.Au.take P.length:=CS.2 ⟨k,Ab,rfl⟩;rwa [o.d.JR] at f
    exact e.1 (o.d.pf.nm _ this).2
   .exact a
def aBa{ws:List Ah}(hw:∀w∈ws,w∉Pq/\w≠aWx)(h:AG ws i=true):H7 3 i=false:=by
 have h1:=Ca.1 h;have h2:=hw _ h1.2;cases he:H7 3 i with
 |false=>rfl
 |true=>
  unfold H7 at he;rw[Ac AA,Ac AA,Ac (by rw[h1.1];decide)] at he;simp only[JY,Bb] at he;rcases he with(he|⟨he,_⟩)|⟨_,he⟩
  .exact absurd (Ca.1 he).2 h2.1
  .exact absurd (CD he) AA
  .have:=(Ca.1 he).2;simp at this;exact absurd this h2.2
def Dp.Ce(o:Dp P q T b){y:Int}{w:Ah}(hw:w∉HT)(f:w≠AT)(a:w∉Pq/\w≠aWx)(h:∀i∈b.Au,i.node=y->i.A9=1/\i.name=w):Dp P q T {b with Au:=Am.Ce y b.Au}:=by refine o.go (qM o.cm EI) (DL.Ce o λi hi e=>?_);obtain⟨h1,h2⟩:=h i hi e;have h3:AG [w] i=true:=Ca.2 ⟨h1,by simp[h2]⟩;exact⟨by rw[h2];exact hw,Zd (by simpa using CZ f) h3,aBa (by simpa using a) h3⟩
def Dp.dM(o:Dp P q T b){ws:List Ah}(hw:∀w∈ws,w∉HT)(h:AG ws (D1 b.Au)=true):Dp P q T b.FY:=by
 have hl:=o.d.len;have h2:=o.d.pf.len;have ht:D1 b.Au=b.Au[b.Au.length-1]'(by omega):=by have:=J9 (l:=b.Au) (n:=b.Au.length-1) Ab;rwa [(Ab:b.Au.length-1+1=b.Au.length),Bk] at this
 have hpos:=jU o.d (o.d.pf.not hw) (k:=b.Au.length-1) Ab (by rw[<-ht];exact h);have hk:=uZ o.cm;unfold BS.FY at hk⊢;rw[Ac Ab] at hk⊢;refine o.go hk (o.d.FY Ab (Zd (λa=>hw _ a AA) h))
end
def Gc(h:Ai)(F:Nat->Prop)(f:FuncId)(args:List Aa)(r:Aa)(bi:Nat)(b':BS):Prop:=∃h' F',Cy cx f args h r h'/\PB h' bi b' F'/\Fo h F h' F'
abbrev CE(t:DF)(av:Aa):List Aa:=[.int .i64 t.k,.str t.name,.bool t.hn,.str t.KB,.bool t.hp,.str t.sys,.bool t.hs,.bool t.q,av,.bool t.sc,.str t.data,.int .i32 t.r]
section
variable{h h':Ai}{bi:Nat}{b b':BS}{F:Nat->Prop}{n o a:Nat}{t:DF}{av:Aa}
def Q1:jD t.name av (CE t av):=⟨_,_,_,_,_,_,_,_,_,_,rfl⟩
def Fp(w:PB h bi b F)(g:Gz b (n+4) o a)(ht:t.Sm)(hv:Bw t.As av):Gc h F 70 [.ptr (some (bi,0)),.agg (CE t av)] (.int .i64 (b.Mw 1)) bi (b.CU t):=by obtain⟨d,f,c,tt,G,w,hc,rfl⟩:=w;obtain⟨h',o',e,r,w',x⟩:=aAU (m:=n) w g.ok g.rm Q1 hv ht.As ht.name;exact⟨h',_,r,⟨d,o',c,tt,e,w',by unfold BS.CU;rw[HS];exact hc,rfl⟩,x⟩
def jW(w:PB h bi b F)(g:Gz b (n+4) o a)(ht:t.Sm)(hv:Bw t.As av)(sp:Int):Gc h F 117 [.ptr (some (bi,0)),.agg (CE t av),.int .i64 sp] (.int .i64 (b.Mw sp)) bi (b.Cu t.name t.As sp):=by obtain⟨d,f,c,tt,G,w,hc,rfl⟩:=w;obtain⟨h',o',e,r,w',x⟩:=aJG (m:=n) w g.ok g.rm Q1 hv ht.As ht.name sp;exact⟨h',_,r,⟨d,o',c,tt,e,w',by rw[HS];exact hc,rfl⟩,x⟩
def Ă(w:PB h bi b F)(g:Gz b (n+5) o a)(ht:t.Sm)(hv:Bw t.As av):Gc h F 204 [.ptr (some (bi,0)),.agg (CE t av)] (.int .i64 (b.a.len+1)) bi (b.Er t.name t.As):=by obtain⟨d,f,c,tt,G,w,hc,rfl⟩:=w;obtain⟨h',o',c',e,r,w',Wd,x⟩:=aOm (m:=n) w hc g.ok g.rm Q1 hv ht.As ht.name;exact⟨h',_,r,⟨d,o',c',tt,e,w',Wd,rfl⟩,x⟩
def Zg(w:PB h bi b F)(g:Gz b (n+5) o a){r:Int}(hr: -2147483648<=r/\r<=2147483647):Gc h F 72 [.ptr (some (bi,0)),.int .i32 r] (.tuple []) bi (b.Kx r):=by obtain⟨e,d,c,tt,G,w,hc,rfl⟩:=w;obtain⟨h',f,r,w',x⟩:=aOp (m:=n) w g.ok g.rm r hr;exact⟨h',_,r,⟨e,d,c,tt,f,w',hc,rfl⟩,x⟩
def MU(w:PB h bi b F)(g:Gz b (n+1) o a){s:Ah}(hs:s.length<=100000)(x:Int):Gc h F 62 [.ptr (some (bi,0)),.str s,.int .i64 x] (.tuple []) bi (b.DB s x):=by obtain⟨e,d,c,tt,G,w,hc,rfl⟩:=w;obtain⟨h',f,r,w',x⟩:=aOr (m:=n) w g.ok g.rm s hs x;exact⟨h',_,r,⟨e,d,c,tt,f,w',hc,rfl⟩,x⟩
def Zh(w:PB h bi b F)(g:Gz b (n+4) o a)(ht:t.Sm)(hv:Bw t.As av)(s:Int):Gc h F 74 [.ptr (some (bi,0)),.agg (CE t av),.int .i64 s] (.tuple []) bi (b.Df t.name t.As s):=by obtain⟨d,f,c,tt,G,w,hc,rfl⟩:=w;obtain⟨h',o',e,r,w',x⟩:=aOs (m:=n) w g.ok g.rm Q1 hv ht.As ht.name s;exact⟨h',_,r,⟨d,o',c,tt,e,w',by show ED (b.Cu t.name t.As 1).A4 c;rw[HS];exact hc,rfl⟩,x⟩
def JW(w:PB h bi b F)(g:Gz b n o a):Gc h F 202 [.ptr (some (bi,0))] (.tuple []) bi b.B4:=by obtain⟨d,f,c,tt,G,w,hc,rfl⟩:=w;obtain⟨h',o',r,w',x⟩:=aOt w g.rm;exact⟨h',_,r,⟨d,o',c,tt,G,w',by have e:b.B4.A4=b.A4:=(by unfold BS.B4;split<;>rfl);rw[e];exact hc,rfl⟩,x⟩
def C6(w:PB h bi b F)(g:Gz b (n+4*a) o a):Gc h F 84 [.ptr (some (bi,0))] (.tuple []) bi b.AL:=by obtain⟨d,f,c,tt,G,w,hc,rfl⟩:=w;obtain⟨h',o',c',e,r,w',Wd,x⟩:=aOC (m:=n) w hc g.ok (g.rm.le (by have:=g.A4;omega));exact⟨h',_,r,⟨d,o',c',tt,e,w',Wd,rfl⟩,x⟩
def ă(w:PB h bi b F)(g:Gz b n o a)(nm:Ah):Gc h F 86 [.ptr (some (bi,0)),.str nm] (.tuple []) bi (b.CV nm):=by obtain⟨d,f,c,tt,G,w,hc,rfl⟩:=w;obtain⟨h',o',r,w',x⟩:=aJO w g.rm nm;exact⟨h',_,r,⟨d,o',c,tt,G,w',by have e:(b.CV nm).A4=b.A4:=(by unfold BS.CV;split;split<;>rfl;rfl);rw[e];exact hc,rfl⟩,x⟩
def aBb(w:PB h bi b F)(g:Gz b n o a):Gc h F 92 [.ptr (some (bi,0))] (.tuple []) bi b.JD:=by obtain⟨e,d,c,tt,G,w,hc,rfl⟩:=w;obtain⟨h',r,w',x⟩:=aF7 w g.rm;exact⟨h',_,r,⟨e,d,c,tt,G,w',hc,rfl⟩,x⟩
def jd(w:PB h bi b F)(g:Gz b (n+1000) o a)(ht:t.Sm)(hv:Bw t.As av)(x:Int):Gc h F 209 [.ptr (some (bi,0)),.agg (CE t av),.int .i64 x] (.tuple []) bi (b.FD t.As x):=by obtain⟨f,d,c,tt,G,w,hc,rfl⟩:=w;obtain⟨h',i,r,w',x⟩:=aOw (m:=n) w g.ok g.rm Q1 hv ht.As x;exact⟨h',_,r,⟨f,d,c,tt,i,w',by have e:∀y,(b.FD t.As y).A4=b.A4:=(λy=>by unfold BS.FD;split<;>rfl);rw[e];exact hc,rfl⟩,x⟩
def aGp(w:PB h bi b F)(g:Gz b n o a):Gc h F 79 [.ptr (some (bi,0))] (.tuple []) bi b.Di:=by obtain⟨d,e,c,tt,G,w,hc,rfl⟩:=w;obtain⟨h',o',c',t',r,w',Wd,x⟩:=aOx w hc g.rm;exact⟨h',_,r,⟨d,o',c',t',G,w',Wd,rfl⟩,x⟩
def Ą(w:PB h bi b F):Gc h F 82 [.ptr (some (bi,0))] (.tuple []) bi {b with stop:=true}:=by obtain⟨e,d,c,tt,G,w,hc,rfl⟩:=w;obtain⟨h',r,w',x⟩:=aOA w;exact⟨h',_,r,⟨e,d,c,tt,G,w',hc,rfl⟩,x⟩
def Zi(w:PB h bi b F)(g:Gz b (n+8*(4*(o+8)+10)) o a)(nm:Ah):Gc h F 157 [.ptr (some (bi,0)),.str nm] (.tuple []) bi (b.C1 nm):=by obtain⟨d,f,c,tt,G,w,hc,rfl⟩:=w;obtain⟨h',o',c',e,r,w',Wd,x⟩:=aO1 (m:=n) w hc g.ok (g.rm.le (by have:=g.Au;omega)) nm;exact⟨h',_,r,⟨d,o',c',tt,e,w',Wd,rfl⟩,x⟩
def P6(w:PB h bi b F)(g:Gz b n o a):Gc h F 76 [.ptr (some (bi,2))] (.agg b.aDU.row) bi b.FY:=by obtain⟨d,f,c,tt,G,w,hc,rfl⟩:=w;obtain⟨h',o',r,w',x⟩:=aJW w g.rm;exact⟨h',_,r,⟨d,o',c,tt,G,w',by have e:b.FY.A4=b.A4:=(by unfold BS.FY;split<;>rfl);rw[e];exact hc,rfl⟩,x⟩
def ą(w:PB h bi b F)(g:Gz b n o a):Gc h F 77 [.ptr (some (bi,3))] (.tuple []) bi {b with A4:=b.A4++[Ck.zero]}:=by obtain⟨e,d,c,tt,G,w,hc,rfl⟩:=w;have oB:=g.rm.A4;obtain⟨fs,ME,WD⟩:=hc;obtain⟨u,r2,hu⟩:=f63 (h:=h) (id:=bi) (o:=3) (l:=fs) ⟨c,w.qi,WD⟩ (by rw[<-ME,Aw] at oB;omega);exact⟨_,_,r2,⟨e,d,u,tt,G,w.TW (u:=u) (l:=b.A4++[Ck.zero]),⟨_,by rw[Cg,ME];rfl,hu⟩,rfl⟩,Cz⟩
def je(w:PB h bi b F)(g:Gz b n o a):∃r,Gc h F 90 [.ptr (some (bi,3))] r bi {b with A4:=Fw b.A4}:=by obtain⟨e,d,c,tt,G,w,hc,rfl⟩:=w;have oB:=g.rm.A4;obtain⟨fs,ME,WD⟩:=hc;obtain⟨u,r2,hu⟩:=f65 (h:=h) (id:=bi) (o:=3) (l:=fs) ⟨c,w.qi,WD⟩ (by rw[<-ME,Aw] at oB;omega);exact⟨_,_,_,r2,⟨e,d,u,tt,G,w.TW (u:=u) (l:=Fw b.A4),⟨_,by rw[gy,ME],hu⟩,rfl⟩,Cz⟩
def jX(w:PB h bi b F)(g:Gz b n o a){v:Aa}{ws:List Ah}(hw:IB ws v)(hn:ws.length<=1000000000):∃r,Gc h F 89 [.ptr (some (bi,2)),v] r bi {b with Au:=D5 Dh (AG ws) b.Au}:=by obtain⟨d,e,c,tt,G,w,hc,rfl⟩:=w;have ho:=g.rm.Au;obtain⟨u,r2,hu⟩:=f66 w.sO Ab hw hn;exact⟨_,_,_,r2,⟨d,u,c,tt,G,w.PJ hu,hc,rfl⟩,Cz⟩
def MV(w:PB h bi b F)(g:Gz b n o a)(s:Ah):∃r,Gc h F 165 [.ptr (some (bi,2)),.str s] r bi {b with Au:=D5 (CJ s) Dh b.Au}:=by obtain⟨d,e,c,tt,G,w,hc,rfl⟩:=w;have ho:=g.rm.Au;obtain⟨u,r2,hu⟩:=aFV w.sO Ab s;exact⟨_,_,_,r2,⟨d,u,c,tt,G,w.PJ hu,hc,rfl⟩,Cz⟩
def Zj(w:PB h bi b F)(g:Gz b n o a)(x:Int):∃r,Gc h F 127 [.ptr (some (bi,2)),.int .i64 x] r bi {b with Au:=Ce x b.Au}:=by obtain⟨d,e,c,tt,G,w,hc,rfl⟩:=w;have ho:=g.rm.Au;obtain⟨u,r2,hu⟩:=aAN w.sO Ab x;exact⟨_,_,_,r2,⟨d,u,c,tt,G,w.PJ hu,hc,rfl⟩,Cz⟩
def aGq(w:PB h bi b F)(g:Gz b n o a)(i:Item):Gc h F 126 [.ptr (some (bi,2)),.agg i.row] (.tuple []) bi {b with Au:=b.Au++[i]}:=by obtain⟨d,e,c,tt,G,w,hc,rfl⟩:=w;have ho:=g.rm.Au;obtain⟨u,r2,hu⟩:=f95 w.sO Ab i;exact⟨_,_,r2,⟨d,u,c,tt,G,w.PJ hu,hc,rfl⟩,Cz⟩
def PB.sA(w:PB h bi b F):og h (.ptr (some (bi,2))) b.Au:=by obtain⟨e,d,c,tt,G,w,hc,rfl⟩:=w;exact w.sA
def PB.M0(w:PB h bi b F):∃x,Bn h none (.ptr (some (bi,0)))=some (.ptr (some (x,0))):=by obtain⟨d,e,c,tt,G,w,hc,rfl⟩:=w;exact⟨d,w.l0⟩
def PB.Ci(w:PB h bi b F):Bn h none (.ptr (some (bi,1)))=some (.int .i64 b.BM)/\Bn h none (.ptr (some (bi,4)))=some (.int .i64 b.mode)/\Bn h none (.ptr (some (bi,5)))=some (.int .i64 b.IE)/\Bn h none (.ptr (some (bi,7)))=some (.int .i64 b.head)/\Bn h none (.ptr (some (bi,8)))=some (.int .i64 b.GO)/\Bn h none (.ptr (some (bi,14)))=some (.bool b.fs)/\Bn h none (.ptr (some (bi,18)))=some (.int .i64 b.sw)/\Bn h none (.ptr (some (bi,19)))=some (.bool b.stop):=by obtain⟨e,d,c,tt,G,w,hc,rfl⟩:=w;exact⟨w.ld 1,w.ld 4,w.ld 5,w.ld 7,w.ld 8,w.ld 14,w.ld 18,w.ld 19⟩
def PB.ltm(w:PB h bi b F):∃v,Bn h none (.ptr (some (bi,6)))=some v/\IH b.tm v:=by obtain⟨e,d,c,tt,G,w,hc,rfl⟩:=w;exact⟨tt,w.l6,w.t⟩
def T5(w:PB h bi b F)(g:Gz b n o a)(s:Int){v:Aa}{ws:List Ah}(hv:IB ws v)(hw:ws.length<=1000000000):Cy cx 217 [.ptr (some (bi,2)),.int .i64 s,v] h (.bool (b.NU s (AG ws))) h:=
 aIZ w.sA (by have:=g.rm.Au;omega) s hv hw
def pC(w:PB h bi b F)(g:Gz b n o a)(s x:Int):Cy cx 218 [.ptr (some (bi,2)),.int .i64 s,.int .i64 x] h (.bool (b.NU s (Bt x))) h:=
 aI0 w.sA (by have:=g.rm.Au;omega) s x
def aGr(w:PB h bi b F)(g:Gz b n o a)(s:Ah):Cy cx 124 [.ptr (some (bi,2)),.str s] h (.int .i64 (AD (AG [s]) b.Au)) h:=
 aAL w.sA (by have:=g.rm.Au;omega) s
def aBc(w:PB h bi b F)(i:Int):Cy cx 163 [.ptr (some (bi,2)),.int .i64 i] h (.agg (El b.Au i).row) h:=Wn w.sA i
def Zk(w:PB h bi b F):Cy cx 121 [.ptr (some (bi,2))] h (.int .i64 (b.Au.length:Int)) h:=UW w.sA
def pD(w:PB h bi b F)(g:Gz b n o a):Cy cx 180 [.ptr (some (bi,0))] h (.agg (D1 b.Au).row) h:=by obtain⟨e,d,c,tt,G,w,hc,rfl⟩:=w;exact aF3 w g.rm
def Wr(h:Ai)(F:Nat->Prop)(bi k:Nat)(v:Aa)(b':BS):Prop:=C9 h 1 (.ptr (some (bi,k))) v=some (put h bi k v)/\PB (put h bi k v) bi b' F/\Fo h F (put h bi k v) F
def GH(w:PB h bi b F)(v:Int):Wr h F bi 4 (.int .i64 v) {b with mode:=v}:=by obtain⟨e,d,c,tt,G,w,hc,rfl⟩:=w;exact⟨w.st (k:=4) rfl rfl,⟨e,d,c,tt,G,w.put rfl rfl w.o w.t,hc,rfl⟩,Cz⟩
def Ć(w:PB h bi b F)(v:Int):Wr h F bi 7 (.int .i64 v) {b with head:=v}:=by obtain⟨e,d,c,tt,G,w,hc,rfl⟩:=w;exact⟨w.st (k:=7) rfl rfl,⟨e,d,c,tt,G,w.put rfl rfl w.o w.t,hc,rfl⟩,Cz⟩
def jY(w:PB h bi b F)(v:Int):Wr h F bi 8 (.int .i64 v) {b with GO:=v}:=by obtain⟨e,d,c,tt,G,w,hc,rfl⟩:=w;exact⟨w.st (k:=8) rfl rfl,⟨e,d,c,tt,G,w.put rfl rfl w.o w.t,hc,rfl⟩,Cz⟩
def Mf(w:PB h bi b F)(v:Bool):Wr h F bi 14 (.bool v) {b with fs:=v}:=by obtain⟨e,d,c,tt,G,w,hc,rfl⟩:=w;exact⟨w.st (k:=14) rfl rfl,⟨e,d,c,tt,G,w.put rfl rfl w.o w.t,hc,rfl⟩,Cz⟩
def ć(w:PB h bi b F)(v:Bool):Wr h F bi 17 (.bool v) {b with skip:=v}:=by obtain⟨e,d,c,tt,G,w,hc,rfl⟩:=w;exact⟨w.st (k:=17) rfl rfl,⟨e,d,c,tt,G,w.put rfl rfl w.o w.t,hc,rfl⟩,Cz⟩
def aPd(w:PB h bi b F)(v:Int):Wr h F bi 18 (.int .i64 v) {b with sw:=v}:=by obtain⟨e,d,c,tt,G,w,hc,rfl⟩:=w;exact⟨w.st (k:=18) rfl rfl,⟨e,d,c,tt,G,w.put rfl rfl w.o w.t,hc,rfl⟩,Cz⟩
def aKn(w:PB h bi b F){v:Aa}{l:List Int}(hv:IH l v):Wr h F bi 6 v {b with tm:=l}:=by obtain⟨e,d,c,tt,G,w,hc,rfl⟩:=w;exact⟨w.st (k:=6) (v0:=tt) rfl (BB.cells hv),⟨e,d,c,v,G,w.aF9 hv,hc,rfl⟩,Cz⟩
end
def OP(c:UInt8):Bool:=decide ((9<=c.toNat/\c.toNat<=13)\/c.toNat=32)
def wf:Ah->Ah->List Ah
 |cur,[]=>if cur=[] then[] else[cur]
 |cur,c::r=>if OP c then(if cur=[] then wf [] r else cur::wf [] r) else wf (cur++[c]) r
def jZ:Bool->Ah->Nat
 |_,[]=>0
 |w,c::r=>(if w&& !OP c then 1 else 0)+jZ (OP c) r
def jf(b:Bool):Int:=if b then 1 else 0
def U8:∀{s cur:Ah},(wf cur s).length=(if cur=[] then 0 else 1)+jZ (decide (cur=[])) s
 |[],cur=>by unfold wf jZ;split<;>simp_all
 |c::r,cur=>by
  unfold wf jZ;by_cases hc:OP c=true
  .by_cases h0:cur=[];.simp[hc,h0,U8 (s:=r) (cur:=[])]
   .simp[hc,h0,U8 (s:=r) (cur:=[])];omega
  .have Wd:OP c=false:=by simpa using hc
   by_cases h0:cur=[];.simp[Wd,h0,U8 (s:=r) (cur:=[c])]
   .simp[Wd,h0,U8 (s:=r) (cur:=cur++[c])]
def jg:∀{s cur:Ah},(wf cur s).length<=s.length+1
 |[],cur=>by unfold wf;split<;>simp
 |c::r,cur=>by
  unfold wf;have h1:=jg (s:=r) (cur:=[]);have h2:=jg (s:=r) (cur:=cur++[c]);split;.split<;>simp only[AK]<;>omega
  .simp only[AK];omega
def jh{c:UInt8}(k:Option Nat)(hk:k=none){h:Ai}:∃v,AH (.Vh 256 1) [.B9 Ht,.int .u8 (c.toNat:Int)]=some v/\Bn h k v=some (.int .u8 (jf (OP c))):=by
 subst hk;have key:∀n:Nat,n<256->Ht[n]?=some (.int .u8 (jf (decide ((9<=n/\n<=13)\/n=32)))):=by intro n hn;have h1:∀n,n<256->Ov[n]?=some (jf (decide ((9<=n/\n<=13)\/n=32))):=Ed;rw[Ht,Dm,h1 n hn];rfl
 have hc:=c.toNat_lt;have hi:MX (c.toNat:Int) 256=some c.toNat:=by unfold MX;rw[Af Ab];rfl
 refine⟨.B9 (Ht.drop (c.toNat*1)),by simp[AH,hi,Xm],?_⟩;rw[Po,I4,CF,Hz,By,key _ hc];rfl
def aGs{s c:Nat}(hs:s<128)(hc:c<128):∃n:Nat,n<128/\AH (.int .or) [.int .u8 (s:Int),.int .u8 (c:Int)]=some (.int .u8 (n:Int)):=by
 have key:∀s:Nat,s<128->∀c:Nat,c<128->(match AH (.int .or) [.int .u8 (s:Int),.int .u8 (c:Int)] with|some (.int .u8 n)=>decide (0<=n/\n<128)|_=>false)=true:=Ed;have h1:=key s hs c hc;split at h1;.rename_i n hv;have:=CD h1;exact⟨n.toNat,Ab,by rw[hv,IU this.1]⟩
 .cases h1
def aGt(w i:Bool):∃v,AH (.un .xor) [.int .i64 (jf i)]=some v/\AH (.int .and) [.int .i64 (jf w),v]=some (.int .i64 (if w&& !i then 1 else 0)):=by cases w<;>cases i<;>exact⟨_,rfl,rfl⟩
def aGu(i:Bool):IntKind.i64.wrap (jf i)=jf i:=by cases i<;>rfl
def ji{U:Type}(l:List U)(x y:U)(r:List U){k:Nat}(hk:k=l.length):(l++y::r).take k++[x]++(l++y::r).drop (k+1)=l++x::r:=by subst hk;simp
def aKo(s:Ah)(hs:s.length<=1000000)(ha:∀c∈s,c.toNat<128)(h:Ai):Cy cx 240 [.str s] h (.sl 1 ((wf [] s).map Cv)) (h++[.Ef]):=by
 have K:AV=140737488355328:=rfl;have O:=jg (s:=s) (cur:=[]);obtain⟨N,hNe⟩:∃N,N=(wf [] s).length:=⟨_,rfl⟩;rw[Ag,db,aFk];refine F0 (i:=0) (λz:Nat×Bool×Nat×Nat=>[.int .i64 (z.1:Int),.int .i64 (jf z.2.1),.int .u8 (z.2.2.1:Int),.int .i64 (z.2.2.2:Int)]) (λz h1=>h1=h/\z.2.2.2<=s.length/\z.2.2.1<128/\z.1+jZ z.2.1 (s.drop z.2.2.2)=jZ true s) (λz=>s.length-z.2.2.2) (λz h1=>h1=h/\z.2.2.1<128/\z.1=N) (0,true,0,0) rfl ⟨rfl,Bp _,AA,AB⟩ ?_ ?_
 .rintro⟨n,w,bits,i⟩ h1 ⟨rfl,hi,hb,hn⟩;simp only at hi hb hn;rcases Bl i s.length with hlt|IS
  .obtain⟨bits',Se,y⟩:=aGs hb (ha _ (AF hlt));obtain⟨v,I,H⟩:=jh (c:=s[i]) none rfl (h:=h1);obtain⟨v2,p,d⟩:=aGt w (OP s[i]);have M:jZ true s<=s.length+1:=by have:=U8 (s:=s) (cur:=[]);simp at this;omega
   rw[Az hlt,jZ] at hn;have u:=TC (a:=(n:Int)) (b:=if w&& !OP s[i] then 1 else 0) (by split<;>omega) (by split<;>omega);have t:((n:Int)+if(w&& !OP s[i])=true then 1 else 0)=((n+if(w&& !OP s[i])=true then 1 else 0:Nat):Int):=by split<;>simp
   simp only[abS,(Ab:(i:Int)<(s.length:Int)),I5 hlt,y,I,H,WK,aGu,p,d,u,t,Dw (Ab:i<9223372036854775807)];exact .next (_,OP s[i],bits',i+1) rfl ⟨rfl,hlt,Se,HC⟩ HC
  .simp only[abS,(Ab:¬(i:Int)<(s.length:Int))];refine .Jz (n,w,bits,i) rfl ⟨rfl,hb,?_⟩;rw[AR IS,jZ] at hn;have:=U8 (s:=s) (cur:=[]);simp at this;simp only;omega
 rintro⟨n,w,bits,i⟩ h1 ⟨rfl,hb,hn⟩;simp only at hb hn;subst hn;have y:Xo h1 1 16 [S []] (.int .i64 (n:Int)) (.int .i64 (n:Int))=some (h1++[.cells (List.replicate n [S []]).flatten],.Dn h1.length 0 n 1):=by simp only[Xo];rw[Af ⟨Ab,Ab,Et,rfl⟩];simp
 have I:(List.replicate n [S []]).flatten=List.replicate n (S []):=by
  clear y hNe O;induction n with
  |zero=>rfl
  |succ n ih=>rw[LG,CO,ih];rfl
 rw[I] at y;have H:¬(128:Int)<=(bits:Int):=Ab;simp only[abS,H];refine v_ y ?_;refine F0 (i:=2) (λi:Nat=>[.int .i64 (i:Int)]) (λi h2=>h2=h1++[.cells (List.replicate n (S []))]/\i<=s.length/\wf [] s=wf [] (s.drop i)) (λi=>s.length-i) (λi h2=>h2=h1++[.cells (List.replicate n (S []))]/\i<=s.length/\wf [] s=wf [] (s.drop i)/\∀hi:i<s.length,OP s[i]=false) 0 rfl ⟨rfl,Bp _,rfl⟩ ?_ ?_
 .rintro i h2 ⟨rfl,hi,hw⟩;rcases Bl i s.length with hlt|IS
  .obtain⟨v,p,d⟩:=jh (c:=s[i]) none rfl (h:=h1++[.cells (List.replicate n (S []))]);cases hsp:OP s[i] with
   |true=>rw[hsp] at d;simp only[abS,(Ab:(i:Int)<(s.length:Int)),I5 hlt,p,d,jf,↓reduceIte,(AA:(1:Int)≠0),CY,Dw (Ab:i<9223372036854775807)];rw[Az hlt,wf,hsp] at hw;exact .next (i+1) rfl ⟨rfl,hlt,by simpa using hw⟩ Ab
   |false=>rw[hsp] at d;simp only[abS,(Ab:(i:Int)<(s.length:Int)),I5 hlt,p,d,jf,Cb,↓reduceIte,CY];exact .Jz i rfl ⟨rfl,hi,hw,λ_=>hsp⟩
  .simp only[abS,(Ab:¬(i:Int)<(s.length:Int))];exact .Jz i rfl ⟨rfl,hi,hw,λh=>absurd h Ab⟩
 rintro i0 h2 ⟨rfl,D,C,ug⟩;simp only[Cx];refine F0 (i:=4) (λz:List Ah×Nat×Nat=>[.int .i64 (z.1.length:Int),.int .i64 (z.2.1:Int),.int .i64 (z.2.2:Int)]) (λz h2=>h2=h1++[.cells (z.1.map Aa.str++List.replicate (n-z.1.length) (S []))]/\z.2.1<=z.2.2/\z.2.2<=s.length/\z.1++wf ((s.take z.2.2).drop z.2.1) (s.drop z.2.2)=wf [] s/\(z.2.1=z.2.2->∀hi:z.2.2<s.length,OP s[z.2.2]=false)) (λz=>s.length-z.2.2)
  (λz h2=>h2=h1++[.cells (z.1.map Aa.str++List.replicate (n-z.1.length) (S []))]/\z.2.1<=s.length/\z.1++wf (s.drop z.2.1) []=wf [] s) ([],i0,i0) rfl ⟨AB,Ad _,D,by simp[C,aLY],λ_=>ug⟩ ?_ ?_
 .rintro⟨dn,f,i⟩ h2 ⟨rfl,hf,hi,hw,hz⟩;simp only at hf hi hw hz;have uj:dn.length<=n:=by rw[hNe,<-hw,Ao];omega
  rcases Bl i s.length with hlt|IS
  .obtain⟨v,p,d⟩:=jh (c:=s[i]) none rfl (h:=h1++[.cells (dn.map Aa.str++List.replicate (n-dn.length) (S []))]);rw[Az hlt] at hw;cases hsp:OP s[i] with
   |false=>
    rw[hsp] at d;simp only[abS,(Ab:(i:Int)<(s.length:Int)),I5 hlt,p,d,jf,Cb,↓reduceIte,Dw (Ab:i<9223372036854775807)];rw[wf,hsp] at hw;refine .next (dn,f,i+1) rfl ⟨rfl,HC,hlt,?_,λe=>by simp only at e;omega⟩ HC
    simp only
    rw[zh hf hlt];simpa using hw
   |true=>
    rw[hsp] at d;have aUT:f<i:=by
     rcases Bl f i with h|h
     .exact h
     .have:=hz Ab hlt;rw[hsp] at this;cases this
    have aPe:(s.take i).drop f≠[]:=by intro e;have:=B3 List.length e;simp at this;omega
    rw[wf,hsp] at hw;simp only[BN,aPe,DP] at hw;have m:dn.length<n:=by rw[hNe,<-hw];simp
    have u:AH (.GY 1) [.Dn h1.length 0 n 1,.int .i64 (dn.length:Int)]=some (.ptr (some (h1.length,dn.length))):=by have:=Jq (id:=h1.length) (z:=1) (n:=n) (k:= .i64) m;rwa [Hz] at this
    have hcl:(dn.map Aa.str++List.replicate (n-dn.length) (S [])).length=n:=Et;have t:C9 (h1++[.cells (dn.map Aa.str++List.replicate (n-dn.length) (S []))]) 1 (.ptr (some (h1.length,dn.length))) (.str ((s.take i).drop f))=some (h1++[.cells ((dn++[(s.take i).drop f]).map Aa.str++List.replicate (n-(dn++[(s.take i).drop f]).length) (S []))]):=by have h3:(h1++[GJ.cells (dn.map Aa.str++List.replicate (n-dn.length) (S []))])[h1.length]?=some (.cells (dn.map Aa.str++List.replicate (n-dn.length) (S []))):=AB;simp only[C9,h3,Rn,AS];rw[Af ⟨trivial,by rw[hcl];omega⟩,Cc _ _ (Ad _),E9];have F:n-dn.length=(n-(dn.length+1))+1:=Ab;have E:(dn.map Aa.str).length=dn.length:=Aw ..;simp only[lB,Cg,Bj,DM,Ao,AS];rw[F,LG,ji _ _ _ _ E.symm];simp
    simp only[abS,(Ab:(i:Int)<(s.length:Int)),I5 hlt,p,d,jf,↓reduceIte,(AA:¬(1:Int)=0),sV (z:=0) (k:= .i64) (l:= .i64) (Ab:f<=i) hi,u,t,Dw (Ab:dn.length<9223372036854775807),Dw (Ab:i<9223372036854775807)];refine F0 (i:=6) (λj:Nat=>[.int .i64 (j:Int)]) (λj h2=>h2=h1++[.cells ((dn++[(s.take i).drop f]).map Aa.str++List.replicate (n-(dn++[(s.take i).drop f]).length) (S []))]/\i<j/\j<=s.length/\wf [] (s.drop (i+1))=wf [] (s.drop j)) (λj=>s.length-j) (λj h2=>h2=h1++[.cells ((dn++[(s.take i).drop f]).map Aa.str++List.replicate (n-(dn++[(s.take i).drop f]).length) (S []))]/\i<j/\j<=s.length/\wf [] (s.drop (i+1))=wf [] (s.drop j)/\∀hj:j<s.length,OP s[j]=false) (i+1) rfl ⟨rfl,Ab,hlt,rfl⟩ ?_ ?_
    .rintro j h2 ⟨rfl,o,hj,xM⟩;rcases Bl j s.length with qI|L
     .obtain⟨v,J,A⟩:=jh (c:=s[j]) none rfl (h:=h1++[.cells ((dn++[(s.take i).drop f]).map Aa.str++List.replicate (n-(dn++[(s.take i).drop f]).length) (S []))]);cases g:OP s[j] with
      |true=>rw[g] at A;simp only[abS,(Ab:(j:Int)<(s.length:Int)),I5 qI,J,A,jf,↓reduceIte,(AA:(1:Int)≠0),CY,Dw (Ab:j<9223372036854775807)];rw[Az qI,wf,g] at xM;exact .next (j+1) rfl ⟨rfl,Ab,qI,by simpa using xM⟩ Ab
      |false=>rw[g] at A;simp only[abS,(Ab:(j:Int)<(s.length:Int)),I5 qI,J,A,jf,Cb,↓reduceIte,CY];exact .Jz j rfl ⟨rfl,o,hj,xM,λ_=>g⟩
     .simp only[abS,(Ab:¬(j:Int)<(s.length:Int))];exact .Jz j rfl ⟨rfl,o,hj,xM,λh=>absurd h Ab⟩
    .rintro j h2 ⟨rfl,o,hj,xM,B⟩;simp only[Cx,↓reduceIte];refine .next (dn++[(s.take i).drop f],j,j) AB ⟨rfl,Ad _,hj,?_,λ_=>B⟩ HC
     simp only[aLY];rw[<-xM,A6];exact hw
  .simp only[abS,(Ab:¬(i:Int)<(s.length:Int))];have hie:i=s.length:=Ab;refine .Jz (dn,f,i) rfl ⟨rfl,HC,?_⟩;simp only
   rw[AR IS,hie,Bk] at hw;exact hw
 .rintro⟨dn,f,i⟩ h2 ⟨rfl,hf,hw⟩;simp only at hf hw;have fz:∀l:List Ah,l=wf [] s->LW (h1++[.cells (l.map Aa.str)]) (.Dn h1.length 0 n 1)=some (h1++[.Ef],.sl 1 ((wf [] s).map Cv)):=by
   rintro l rfl;have hr:∀r∈(wf [] s).map Cv,r.length=1:=λr hr=>by obtain⟨w,_,rfl⟩:=A7.1 hr;rfl
   have P:((wf [] s).map Cv).flatten=(wf [] s).map Aa.str:=by
    generalize wf [] s=q;induction q with
    |nil=>rfl
    |cons x q ih=>simp[Cv,ih]
   have:=OB (h:=h1++[.cells ((wf [] s).map Aa.str)]) (id:=h1.length) hr (by rw[P];simp);rw[Aw,<-hNe] at this;rw[this,Cc _ _ (Ad _),E9];rfl
  rcases Bl f s.length with hlt|IS
  .have hne:s.drop f≠[]:=by intro e;have:=B3 List.length e;simp at this;omega
   rw[wf,Ac hne] at hw;have m:n=dn.length+1:=by rw[hNe,<-hw];simp
   have u:AH (.GY 1) [.Dn h1.length 0 n 1,.int .i64 (dn.length:Int)]=some (.ptr (some (h1.length,dn.length))):=by have:=Jq (id:=h1.length) (z:=1) (n:=n) (k:= .i64) (Ab:dn.length<n);rwa [Hz] at this
   have t:C9 (h1++[.cells (dn.map Aa.str++List.replicate (n-dn.length) (S []))]) 1 (.ptr (some (h1.length,dn.length))) (.str (s.drop f))=some (h1++[.cells ((dn++[s.drop f]).map Aa.str)]):=by have h3:(h1++[GJ.cells (dn.map Aa.str++List.replicate (n-dn.length) (S []))])[h1.length]?=some (.cells (dn.map Aa.str++List.replicate (n-dn.length) (S []))):=AB;have F:n-dn.length=1:=Ab;have E:(dn.map Aa.str).length=dn.length:=Aw ..;simp only[C9,h3,Rn,AS];rw[Af ⟨trivial,Et⟩,Cc _ _ (Ad _),E9,F,show List.replicate 1 (S [])=S []::[] from rfl,ji _ _ _ _ E.symm];simp
   simp only[abS,(Ab:(f:Int)<(s.length:Int)),ov (z:=0) (k:= .i64) (Ab:f<=s.length),u,t,fz _ hw]
  .rw[AR IS,wf] at hw;simp only[BN,Bg] at hw;have m:n-dn.length=0:=by rw[hNe,<-hw];omega
   have G:=fz _ hw;rw[m,List.replicate_zero,Bg];simp only[abS,(Ab:¬(f:Int)<(s.length:Int)),G]
section
variable{h h':Ai}{bi:Nat}{b b':BS}{F:Nat->Prop}{n o a:Nat}{t:DF}{av:Aa}
def aKp(lo hi r:Int)(h:Ai):Cy cx 233 [.int .i32 r,.B9 [.int .i32 lo],.B9 [.int .i32 hi]] h (.bool (decide (lo<=r/\r<=hi))) h:=by rw[Ag,iP,aAz];simp only[Cx];refine⟨λh1=>by simp[h1],λh1=>by simp[h1]⟩
def VQ(p:Int×Int):List Aa:=[.func (.func 233) [] [.B9 [.int .i32 p.1],.B9 [.int .i32 p.2]]]
def aKq{L:List (Int×Int)}(g:L.length<=1000)(r:Int)(h:Ai):Cy cx 232 [.int .i32 r,.B9 [.sl 1 (L.map VQ)]] h (.bool (L.any λp=>decide (p.1<=r/\r<=p.2))) h:=by
 have hv:BB 1 (L.map VQ) (.sl 1 (L.map VQ)):= .mk;have e:=BB.GN hv;rw[Ag,cy,aFg];simp only[Cx,e];refine Co (λn:Nat=>[ff,.int .i64 (n:Int)]) (λn h1=>n<=L.length/\h1=h/\L.any (λp=>decide (p.1<=r/\r<=p.2))=(L.drop n).any λp=>decide (p.1<=r/\r<=p.2)) (λn=>L.length-n) 0 rfl ⟨Bp _,rfl,rfl⟩ ?_;rintro n h1 ⟨hn,rfl,ha⟩;rcases Bl n L.length with hlt|IS
 .have c:=BB.DN (k:= .i64) hv hlt;have f:∀x y:Int,CN (.func (.func 233) [] [.B9 [.int .i32 x],.B9 [.int .i32 y]]) [.int .i32 r]=some (233,[.int .i32 r,.B9 [.int .i32 x],.B9 [.int .i32 y]]):=λ_ _=>rfl;have d:=aKp L[n].1 L[n].2 r h1;rw[Az hlt,SV] at ha;rw[VQ] at c;simp only[abS,(Ab:(n:Int)<(L.length:Int)),c,f,d.Ae,Dw (Ab:n<9223372036854775807)];refine⟨λh2=>?_,λh2=>?_⟩;.rw[ha];simp[h2]
  .rw[Ap h2,J4] at ha;exact BC.next (n+1) rfl ⟨hlt,rfl,ha⟩ Ab
 .rw[AR IS] at ha;simp only[abS,(Ab:¬(n:Int)<(L.length:Int)),ha,qE]
def aPg(r:Int):Oz cx 101 [.int .i32 r] (.bool (decide (u_ r))):=by
 have d:∀(lo hi:Int) (h:Ai),Cy cx 179 [.int .i32 lo,.int .i32 hi] h (.func (.func 233) [] [.B9 [.int .i32 lo],.B9 [.int .i32 hi]]) h:=λlo hi h=>by rw[Ag,WS,Î];simp only[Cx]
 have g:∀(v:Aa) (h:Ai),v.cells=[v]->Cy cx 178 [v] h (.func (.func 232) [] [.B9 [v]]) h:=λv h hv=>by rw[Ag,iI,aAs];simp only[Cx,hv]
 have e:=aKq (L:=[(9,10),(12,13),(32,32)]) AA r [];have c:AH (.CC 1) [.func (.func 233) [] [.B9 [.int .i32 9],.B9 [.int .i32 10]],.func (.func 233) [] [.B9 [.int .i32 12],.B9 [.int .i32 13]],.func (.func 233) [] [.B9 [.int .i32 32],.B9 [.int .i32 32]]]=some (.sl 1 ([((9:Int),(10:Int)),(12,13),(32,32)].map VQ)):=rfl;have f:∀v:Aa,CN (.func (.func 232) [] [v]) [.int .i32 r]=some (232,[.int .i32 r,v]):=λ_=>rfl;have r2:=g (.sl 1 ([((9:Int),(10:Int)),(12,13),(32,32)].map VQ)) [] rfl;have e0:decide (u_ r)=([((9:Int),(10:Int)),(12,13),(32,32)].any λp=>decide (p.1<=r/\r<=p.2)):=by
  have c:u_ r↔((9<=r/\r<=10)\/(12<=r/\r<=13)\/(32<=r/\r<=32)):=by unfold u_;omega
  simp only[SV,qE,SR,<-Bool.decide_or,EF];exact c
 rw[e0,Tv,gT,aAe];simp only[Cx,(d 9 10 []).Ae,(d 12 13 []).Ae,(d 32 32 []).Ae,c,r2.Ae,f,e.Ae]
structure K9(l:Ah)(ws:List Ah):Prop where
 len:l.length<=1000000
 asc:∀c∈l,c.toNat<128
 wf:wf [] l=ws
def NV{l:Ah}{ws:List Ah}(h:(decide (l.length<=1000000)&&l.all (λc=>decide (c.toNat<128))&&decide (wf [] l=ws))=true):K9 l ws:=by simp only[Bb,Ct,DQ] at h;exact⟨h.1.1,h.1.2,h.2⟩
def K9.few{l:Ah}{ws:List Ah}(w:K9 l ws):ws.length<=1000001:=by have:=jg (s:=l) (cur:=[]);have:=w.len;rw[<-w.wf];omega
def Ĉ{l:Ah}{ws:List Ah}(w:K9 l ws)(h:Ai):Cy cx 191 [.str l] h (.sl 1 (ws.map Cv)) (h++[.Ef]):=by have c:=aKo l w.len w.asc h;rw[w.wf] at c;rw[Ag,az,aEP];simp only[Cx,c.Ae]
def u9{l:Ah}{ws:List Ah}(w:K9 l ws)(s:Ah):Oz cx 116 [.str s,.str l] (.bool (decide (s∈ws))):=by have c:Cy cx 191 _ [] _ [.Ef]:=Ĉ w [];have r2:=aAK (Dg (ws:=ws)) (by have:=w.few;omega) s [GJ.Ef];rw[Tv,gX,aAi];simp only[Cx,c.Ae,r2.Ae]
def Gq{l:Ah}{ws:List Ah}(w:K9 l ws)(t:DF)(av:Aa)(h:Ai):Cy cx 69 [.agg (CE t av),.str l] h (.bool (decide (t.st ws))) h:=by
 rw[Ag,T_,t69];simp only[Cx,(u9 w t.name).BH rfl rfl];refine⟨λh1=>?_,λh1=>?_⟩;.congr 2;unfold DF.st;simp[h1]
 .unfold DF.st;simp[h1]
def aH{l:Ah}{ws:List Ah}(w:K9 l ws)(t:DF)(av:Aa)(h:Ai):Cy cx 75 [.agg (CE t av),.str l] h (.bool (decide (t.en ws))) h:=by
 rw[Ag,Y_,t75];simp only[Cx,(u9 w t.name).BH rfl rfl];refine⟨λh1=>?_,λh1=>?_⟩;.congr 2;unfold DF.en;simp[h1]
 .unfold DF.en;simp[h1]
def aI{l:Ah}{ws:List Ah}(w:K9 l ws)(t:DF)(av:Aa)(h:Ai):Cy cx 68 [.agg (CE t av),.str l] h (.bool (decide (t.lL ws))) h:=by
 rw[Ag,S_,t68];simp only[Cx,(u9 w t.name).BH rfl rfl];refine⟨λh1=>?_,λh1=>?_⟩;.congr 2;unfold DF.lL;simp[h1]
 .unfold DF.lL;simp[h1]
def T6(t:DF)(av:Aa)(h:Ai):Cy cx 61 [.agg (CE t av)] h (.bool (decide t.JE)) h:=by
 rw[Ag,O_,t61];simp only[Cx,(aPg t.r).BH rfl rfl];refine⟨λh1=>?_,λh1=>?_⟩;.congr 2;unfold DF.JE;simp[h1]
 .unfold DF.JE;simp[h1]
def KA(w:PB h bi b F)(t:DF)(av:Aa):Cy cx 39 [.ptr (some (bi,0)),.agg (CE t av)] h (.bool (decide t.ok)) h:=by
 obtain⟨x,l0⟩:=w.M0;rw[Ag,M_,t39];simp only[abS,l0];refine⟨λh1=>?_,λh1=>?_⟩;.congr 2;unfold DF.ok;simp[h1]
 .unfold DF.ok;simp[h1]
def ĉ(nm:Ah)(h:Ai):Cy cx 71 [.str nm] h (.agg (CE (JV nm) .slnil)) h:=by rw[Ag,V_,t71];simp only[abS,Nat.reduceLeDiff,↓reduceIte,Cl,JV]
def vA(w:PB h bi b F)(m:Int):Gc h F 64 [.ptr (some (bi,0)),.int .i64 m] tt bi (b.again m).1:=by obtain⟨d,w1,c⟩:=GH w m;refine⟨_,_,?_,w1,c⟩;rw[Ag,uD,t64];simp only[Cx,d]
def SL(w:PB h bi b F)(g:Gz b n o a):Cy cx 88 [.ptr (some (bi,0))] h (.bool (decide b.Of)) h:=by rw[Ag,Ç,t88];simp only[Cx,(aGr w g AT).Ae];rfl
def vB(w:PB h bi b F)(g:Gz b (n+4) o a)(ht:t.Sm)(hv:Bw t.As av):Gc h F 73 [.ptr (some (bi,0)),.agg (CE t av)] (.tuple []) bi (b.GF t):=by obtain⟨h1,j,f,w1,d⟩:=Fp w g ht hv;obtain⟨h2,i,r2,e,c⟩:=P6 w1 (g.CU ht);refine⟨h2,i,?_,e,d.trans c⟩;rw[Ag,W_,t73];simp only[Cx,f.Ae,r2.Ae]
end
def j0:K9 aXg eHB:=NV Ed
def pE:K9 aXc iv:=NV Ed
def dN:K9 aXo uW:=NV Ed
def Ċ:K9 aXU eNo:=NV Ed
def pF:K9 aW0 VO:=NV Ed
def ċ:K9 aXG sNS:=NV Ed
def jj:K9 aWP û:=NV Ed
def Č:K9 aXK sHN:=NV Ed
def RC:K9 aWt F6:=NV Ed
def č:K9 aWW sT1:=NV Ed
def Ď:K9 [116,100,32,116,104] sTd:=NV Ed
def JX:K9 aWu [aWu]:=NV Ed
def Mg:K9 aWy [aWy]:=NV Ed
def dO:K9 aWO [aWO]:=NV Ed
def Zl:K9 aW7 [aW7]:=NV Ed
def MP:K9 aWF [aWF]:=NV Ed
def pG:K9 aWz [aWz]:=NV Ed
def T7:K9 aWA [aWA]:=NV Ed
def jk:K9 aXV [aXV]:=NV Ed
def ď:K9 [116,114] [[116,114]]:=NV Ed
def Hl:K9 aWw [aWw]:=NV Ed
section
variable{h h':Ai}{bi:Nat}{b b':BS}{F:Nat->Prop}{n o a:Nat}{t:DF}{av:Aa}
def aPi(w:PB h bi b F)(g:Gz b (n+5) o a)(ht:t.Sm)(hv:Bw t.As av):Gc h F 46 [.ptr (some (bi,0)),.agg (CE t av)] (.bool (b.Fy t).2) bi (b.Fy t).1:=by
 have Ci:=w.Ci;unfold BS.Fy;by_cases u:¬t.ok;.rw[Af u];have c:=KA w t av;rw[Ap u] at c;refine⟨_,_,?_,w,.refl⟩;rw[Ag,QP,t46];simp only[abS,↓reduceIte,c.Ae]
 rw[Ac u];have c:=KA w t av;rw[Ak (ET.1 u)] at c;by_cases e:t.k=1;.rw[Af e];refine⟨_,_,?_,w,.refl⟩;rw[Ag,QP,t46];simp only[abS,↓reduceIte,c.Ae,BG e]
 rw[Ac e];by_cases r:t.JE;.rw[Af r];have d:=T6 t av h;rw[Ak r] at d;refine⟨_,_,?_,w,.refl⟩;rw[Ag,QP,t46];simp only[abS,↓reduceIte,c.Ae,d.Ae,e]
 rw[Ac r];have d:=T6 t av h;rw[Ap r] at d;by_cases q:t.lL eHB;.rw[Af q];have f:=aI j0 t av h;rw[Ak q] at f;refine⟨_,_,?_,w,.refl⟩;rw[Ag,QP,t46];simp only[abS,↓reduceIte,c.Ae,d.Ae,f.Ae,e]
 rw[Ac q];have f:=aI j0 t av h;rw[Ap q] at f;by_cases m:t.k=4;.rw[Af m];obtain⟨h1,y,i,w1,j⟩:=MU (s:=t.data) w (g.dn (n':=n+1) Ab) (by have:=ht.data;omega) b.BM;refine⟨_,_,?_,w1,j⟩;rw[Ag,QP,t46];simp only[abS,↓reduceIte,c.Ae,d.Ae,f.Ae,e,BG m,i.Ae,Ci]
 rw[Ac m];by_cases p:t.st [aWu];.rw[Af p];have l:=Gq JX t av h;rw[Ak p] at l;obtain⟨h1,y,i,w1,j⟩:=Fp w (g.dn (n':=n+4) Ab) ht hv;obtain⟨z,x,v⟩:=GH w1 3;refine⟨_,_,?_,x,j.trans v⟩;rw[Ag,QP,t46];simp only[abS,↓reduceIte,c.Ae,d.Ae,f.Ae,l.Ae,e,m,i.Ae,z]
 rw[Ac p];have l:=Gq JX t av h;rw[Ap p] at l;have rt:=ĉ aWu h;obtain⟨h1,y,i,w1,j⟩:=Fp (t:=JV aWu) (av:= .slnil) w (g.dn (n':=n+4) Ab) (J3 AA) (.inr ⟨rfl,rfl⟩);obtain⟨h2,A,r2,x,v⟩:=vA w1 3;simp only[JV] at rt i;refine⟨_,_,?_,x,j.trans v⟩;rw[Ag,QP,t46];simp only[abS,↓reduceIte,c.Ae,d.Ae,f.Ae,l.Ae,e,m,rt.Ae,i.Ae,r2.Ae,BS.again]
def aPj(w:PB h bi b F)(g:Gz b (n+1000) o a)(ht:t.Sm)(hv:Bw t.As av)(H:t.st [aWu]->Gc h F 51 [.ptr (some (bi,0)),.agg (CE t av)] ff bi (b.IM t)):Gc h F 47 [.ptr (some (bi,0)),.agg (CE t av)] (.bool (b.Fz t).2) bi (b.Fz t).1:=by
 have Ci:=w.Ci;unfold BS.Fz;by_cases x:¬t.ok;.rw[Af x];have c:=KA w t av;rw[Ap x] at c;refine⟨_,_,?_,w,.refl⟩;rw[Ag,PD,Ļ];simp only[abS,↓reduceIte,c.Ae]
 rw[Ac x];have c:=KA w t av;rw[Ak (ET.1 x)] at c;by_cases e:t.k=1;.rw[Af e];refine⟨_,_,?_,w,.refl⟩;rw[Ag,PD,Ļ];simp only[abS,↓reduceIte,c.Ae,BG e]
 rw[Ac e];by_cases v:t.JE;.rw[Af v];have d:=T6 t av h;rw[Ak v] at d;refine⟨_,_,?_,w,.refl⟩;rw[Ag,PD,Ļ];simp only[abS,↓reduceIte,c.Ae,d.Ae,e]
 rw[Ac v];have d:=T6 t av h;rw[Ap v] at d;by_cases u:t.lL eHB;.rw[Af u];have i:=aI j0 t av h;rw[Ak u] at i;refine⟨_,_,?_,w,.refl⟩;rw[Ag,PD,Ļ];simp only[abS,↓reduceIte,c.Ae,d.Ae,i.Ae,e]
 rw[Ac u];have i:=aI j0 t av h;rw[Ap u] at i;by_cases m:t.k=4;.rw[Af m];obtain⟨h1,D,f,w1,j⟩:=MU (s:=t.data) w (g.dn (n':=n+1) Ab) (by have:=ht.data;omega) 0;refine⟨_,_,?_,w1,j⟩;rw[Ag,PD,Ļ];simp only[abS,↓reduceIte,c.Ae,d.Ae,i.Ae,e,BG m,f.Ae]
 rw[Ac m];by_cases q:t.st [aWu];.rw[Af q];have l:=Gq JX t av h;rw[Ak q] at l;obtain⟨h1,D,f,w1,j⟩:=H q;refine⟨_,_,?_,w1,j⟩;rw[Ag,PD,Ļ];simp only[abS,↓reduceIte,c.Ae,d.Ae,i.Ae,l.Ae,e,m,f.Ae]
 rw[Ac q];have l:=Gq JX t av h;rw[Ap q] at l;by_cases r:t.st [aWy];.rw[Af r];have p:=Gq Mg t av h;rw[Ak r] at p;obtain⟨h1,D,f,w1,j⟩:=Fp w (g.dn (n':=n+4) Ab) ht hv;obtain⟨C,B,z⟩:=Ć w1 (b.Mw 1);obtain⟨E,A,y⟩:=GH B 4;refine⟨_,_,?_,A,(j.trans z).trans y⟩;rw[Ag,PD,Ļ];simp only[abS,↓reduceIte,c.Ae,d.Ae,i.Ae,l.Ae,p.Ae,e,m,f.Ae,C,E]
 rw[Ac r];have p:=Gq Mg t av h;rw[Ap r] at p;have rt:=ĉ aWy h;obtain⟨h1,D,f,w1,j⟩:=Fp (t:=JV aWy) (av:= .slnil) w (g.dn (n':=n+4) Ab) (J3 AA) (.inr ⟨rfl,rfl⟩);obtain⟨C,B,z⟩:=Ć w1 (b.Mw 1);obtain⟨h3,I,G,A,y⟩:=vA B 4;simp only[JV] at rt f;refine⟨_,_,?_,A,(j.trans z).trans y⟩;rw[Ag,PD,Ļ];simp only[abS,↓reduceIte,c.Ae,d.Ae,i.Ae,l.Ae,p.Ae,e,m,rt.Ae,f.Ae,C,G.Ae,BS.again]
def j2(w:PB h bi b F)(g:Gz b (n+1004) o a)(ht:t.Sm)(hv:Bw t.As av)(hh:t.st [aWu]->Gc h F 51 [.ptr (some (bi,0)),.agg (CE t av)] ff bi (b.IM t)):Gc h F 48 [.ptr (some (bi,0)),.agg (CE t av)] (.bool (b.De t).2) bi (b.De t).1:=by
 have Ci:=w.Ci;unfold BS.De;by_cases N:¬t.ok;.rw[Af N];have e:=KA w t av;rw[Ap N] at e;refine⟨_,_,?_,w,.refl⟩;rw[Ag,I7,lI];simp only[abS,↓reduceIte,e.Ae]
 rw[Ac N];have e:=KA w t av;rw[Ak (ET.1 N)] at e;by_cases j:t.k=1;.rw[Af j];refine⟨_,_,?_,w,.refl⟩;rw[Ag,I7,lI];simp only[abS,↓reduceIte,e.Ae,BG j]
 rw[Ac j];by_cases M:t.st [aWy];.rw[Af M];have f:=Gq Mg t av h;rw[Ak M] at f;refine⟨_,_,?_,w,.refl⟩;rw[Ag,I7,lI];simp only[abS,↓reduceIte,e.Ae,f.Ae,j]
 rw[Ac M];have f:=Gq Mg t av h;rw[Ap M] at f;by_cases L:t.lL iv;.rw[Af L];have l:=aI pE t av h;rw[Ak L] at l;refine⟨_,_,?_,w,.refl⟩;rw[Ag,I7,lI];simp only[abS,↓reduceIte,e.Ae,f.Ae,l.Ae,j]
 rw[Ac L];have l:=aI pE t av h;rw[Ap L] at l;by_cases K:t.JE;.rw[Af K];have m:=T6 t av h;rw[Ak K] at m;obtain⟨h1,A,d,w1,c⟩:=Zg w (g.dn (n':=n+5) Ab) ht.r;refine⟨_,_,?_,w1,c⟩;rw[Ag,I7,lI];simp only[abS,↓reduceIte,e.Ae,f.Ae,l.Ae,m.Ae,j,d.Ae]
 rw[Ac K];have m:=T6 t av h;rw[Ap K] at m;by_cases v:t.k=4;.rw[Af v];obtain⟨h1,A,d,w1,c⟩:=MU (s:=t.data) w (g.dn (n':=n+1) Ab) (by have:=ht.data;omega) 0;refine⟨_,_,?_,w1,c⟩;rw[Ag,I7,lI];simp only[abS,↓reduceIte,e.Ae,f.Ae,l.Ae,m.Ae,j,BG v,d.Ae]
 rw[Ac v];by_cases E:t.st [aWu];.rw[Af E];have p:=Gq JX t av h;rw[Ak E] at p;obtain⟨h1,A,d,w1,c⟩:=hh E;refine⟨_,_,?_,w1,c⟩;rw[Ag,I7,lI];simp only[abS,↓reduceIte,e.Ae,f.Ae,l.Ae,m.Ae,p.Ae,j,v,d.Ae]
 rw[Ac E];have p:=Gq JX t av h;rw[Ap E] at p;by_cases J:t.st VO;.rw[Af J];have x:=Gq pF t av h;rw[Ak J] at x;obtain⟨h1,A,d,w1,c⟩:=vB w (g.dn (n':=n+4) Ab) ht hv;refine⟨_,_,?_,w1,c⟩;rw[Ag,I7,lI];simp only[abS,↓reduceIte,e.Ae,f.Ae,l.Ae,m.Ae,p.Ae,x.Ae,j,v,d.Ae]
 rw[Ac J];have x:=Gq pF t av h;rw[Ap J] at x;by_cases H:t.st [aWO];.rw[Af H];have y:=Gq dO t av h;rw[Ak H] at y;obtain⟨h1,A,d,w1,c⟩:=Zh w (g.dn (n':=n+4) Ab) ht hv 2;refine⟨_,_,?_,w1,c⟩;rw[Ag,I7,lI];simp only[abS,↓reduceIte,e.Ae,f.Ae,l.Ae,m.Ae,p.Ae,x.Ae,y.Ae,j,v,d.Ae]
 rw[Ac H];have y:=Gq dO t av h;rw[Ap H] at y;by_cases G:t.st sNS;.rw[Af G];have B:=Gq ċ t av h;rw[Ak G] at B;obtain⟨h1,A,d,w1,c⟩:=Zh w (g.dn (n':=n+4) Ab) ht hv 3;refine⟨_,_,?_,w1,c⟩;rw[Ag,I7,lI];simp only[abS,↓reduceIte,e.Ae,f.Ae,l.Ae,m.Ae,p.Ae,x.Ae,y.Ae,B.Ae,j,v,d.Ae]
 rw[Ac G];have B:=Gq ċ t av h;rw[Ap G] at B;by_cases O1:t.st [aW7];.rw[Af O1];have vC:=Gq Zl t av h;rw[Ak O1] at vC;obtain⟨h1,A,d,w1,c⟩:=Zh w (g.dn (n':=n+4) Ab) ht hv 4;refine⟨_,_,?_,w1,c⟩;rw[Ag,I7,lI];simp only[abS,↓reduceIte,e.Ae,f.Ae,l.Ae,m.Ae,p.Ae,x.Ae,y.Ae,B.Ae,vC.Ae,j,v,d.Ae]
 rw[Ac O1];have vC:=Gq Zl t av h;rw[Ap O1] at vC;by_cases Un:t.st [aWF];.rw[Af Un];have i:=Gq MP t av h;rw[Ak Un] at i;obtain⟨h1,A,d,w1,c⟩:=Fp w (g.dn (n':=n+4) Ab) ht hv;obtain⟨O,D,C⟩:=GH w1 5;refine⟨_,_,?_,D,c.trans C⟩;rw[Ag,I7,lI];simp only[abS,↓reduceIte,e.Ae,f.Ae,l.Ae,m.Ae,p.Ae,x.Ae,y.Ae,B.Ae,vC.Ae,i.Ae,j,v,d.Ae,O]
 rw[Ac Un];have i:=Gq MP t av h;rw[Ap Un] at i;by_cases VR:t.en [aWy];.rw[Af VR];have sg:=aH Mg t av h;rw[Ak VR] at sg;obtain⟨h1,A,d,w1,c⟩:=P6 w (g.dn (n':=n) Ab);obtain⟨O,D,C⟩:=GH w1 6;refine⟨_,_,?_,D,c.trans C⟩;rw[Ag,I7,lI];simp only[abS,↓reduceIte,e.Ae,f.Ae,l.Ae,m.Ae,p.Ae,x.Ae,y.Ae,B.Ae,vC.Ae,i.Ae,sg.Ae,j,v,d.Ae,O]
 rw[Ac VR];have sg:=aH Mg t av h;rw[Ap VR] at sg;by_cases dP:t.st [AT]
 .rw[Af dP];have q:=Gq Hl t av h;rw[Ak dP] at q;obtain⟨h1,A,d,w1,c⟩:=Fp w (g.dn (n':=n+4) Ab) ht hv;have g1:=(g.dn (n':=n+2+4) Ab).CU ht;obtain⟨h2,F2,r2,D,C⟩:=ą w1 g1;obtain⟨Y,V,T⟩:=Mf D false;obtain⟨X,Q,S⟩:=GH V 18;obtain⟨tv,l5,P⟩:=Q.ltm;have tb:(b.CU t).tm.length<=900000000:=by have:=g1.rm.tm;omega
  obtain⟨u,Z,hu⟩:=aF8 P HC (put (put h2 bi 14 ff) bi 4 (I 18));have e6:=BB.nO (b:=8) (a:=(18:Int)) hu (by simp only;have:AV=140737488355328:=rfl;omega);have em:AH (.CC 1) [I 18]=some (.sl 1 [Dj 18]):=rfl;have Tt:IH ((b.CU t).tm++[(18:Int)]) (.sl 1 (((b.CU t).tm++[(18:Int)]).map Dj)):= .mk;obtain⟨W,U,R⟩:=aKn Q Tt;refine⟨_,_,?_,U,(((c.trans C).trans T).trans S).trans R⟩;rw[Ag,I7,lI];simp only[abS,↓reduceIte,e.Ae,f.Ae,l.Ae,m.Ae,p.Ae,x.Ae,y.Ae,B.Ae,vC.Ae,i.Ae,sg.Ae,q.Ae,j,v,d.Ae,r2.Ae,Y,X,l5,Z.Ae,em,e6,W]
 rw[Ac dP];have q:=Gq Hl t av h;rw[Ap dP] at q;by_cases Zm:t.en [AT];.rw[Af Zm];have z:=aH Hl t av h;rw[Ak Zm] at z;obtain⟨h1,A,d,w1,c⟩:=aGp w (g.dn (n':=n) Ab);refine⟨_,_,?_,w1,c⟩;rw[Ag,I7,lI];simp only[abS,↓reduceIte,e.Ae,f.Ae,l.Ae,m.Ae,p.Ae,x.Ae,y.Ae,B.Ae,vC.Ae,i.Ae,sg.Ae,q.Ae,z.Ae,j,v,d.Ae]
 rw[Ac Zm];have z:=aH Hl t av h;rw[Ap Zm] at z;obtain⟨h1,A,d,w1,c⟩:=P6 w (g.dn (n':=n) Ab);obtain⟨h2,F2,r2,D,C⟩:=vA w1 6;refine⟨_,_,?_,D,c.trans C⟩;rw[Ag,I7,lI];simp only[abS,↓reduceIte,e.Ae,f.Ae,l.Ae,m.Ae,p.Ae,x.Ae,y.Ae,B.Ae,vC.Ae,i.Ae,sg.Ae,q.Ae,z.Ae,j,v,d.Ae,r2.Ae,BS.again]
def aPk(w:PB h bi b F)(g:Gz b (n+1004) o a)(ht:t.Sm)(hv:Bw t.As av)(C:t.st [aWu]->Gc h F 51 [.ptr (some (bi,0)),.agg (CE t av)] ff bi (b.IM t)):Gc h F 49 [.ptr (some (bi,0)),.agg (CE t av)] (.bool (b.FA t).2) bi (b.FA t).1:=by
 have Ci:=w.Ci;unfold BS.FA;by_cases B:¬t.ok;.rw[Af B];have c:=KA w t av;rw[Ap B] at c;refine⟨_,_,?_,w,.refl⟩;rw[Ag,Nh,uy];simp only[abS,↓reduceIte,c.Ae]
 rw[Ac B];have c:=KA w t av;rw[Ak (ET.1 B)] at c;by_cases i:t.k=1;.rw[Af i];refine⟨_,_,?_,w,.refl⟩;rw[Ag,Nh,uy];simp only[abS,↓reduceIte,c.Ae,BG i]
 rw[Ac i];by_cases A:t.st sHN;.rw[Af A];have f:=Gq Č t av h;rw[Ak A] at f;refine⟨_,_,?_,w,.refl⟩;rw[Ag,Nh,uy];simp only[abS,↓reduceIte,c.Ae,f.Ae,i]
 rw[Ac A];have f:=Gq Č t av h;rw[Ap A] at f;by_cases z:t.lL eNo;.rw[Af z];have j:=aI Ċ t av h;rw[Ak z] at j;refine⟨_,_,?_,w,.refl⟩;rw[Ag,Nh,uy];simp only[abS,↓reduceIte,c.Ae,f.Ae,j.Ae,i]
 rw[Ac z];have j:=aI Ċ t av h;rw[Ap z] at j;by_cases s:t.st [aWu];.rw[Af s];have l:=Gq JX t av h;rw[Ak s] at l;obtain⟨h1,u,e,w1,d⟩:=C s;refine⟨_,_,?_,w1,d⟩;rw[Ag,Nh,uy];simp only[abS,↓reduceIte,c.Ae,f.Ae,j.Ae,l.Ae,i,e.Ae]
 rw[Ac s];have l:=Gq JX t av h;rw[Ap s] at l;by_cases y:t.en [aWF];.rw[Af y];have m:=aH MP t av h;rw[Ak y] at m;obtain⟨h1,u,e,w1,d⟩:=P6 w (g.dn (n':=n) Ab);obtain⟨G,E,D⟩:=GH w1 4;refine⟨_,_,?_,E,d.trans D⟩;rw[Ag,Nh,uy];simp only[abS,↓reduceIte,c.Ae,f.Ae,j.Ae,l.Ae,m.Ae,i,e.Ae,G]
 rw[Ac y];have m:=aH MP t av h;rw[Ap y] at m;by_cases x:t.JE;.rw[Af x];have p:=T6 t av h;rw[Ak x] at p;obtain⟨h1,u,e,w1,d⟩:=j2 w g ht hv C;refine⟨_,_,?_,w1,d⟩;rw[Ag,Nh,uy];simp only[abS,↓reduceIte,c.Ae,f.Ae,j.Ae,l.Ae,m.Ae,p.Ae,i,e.Ae]
 rw[Ac x];have p:=T6 t av h;rw[Ap x] at p;by_cases r:t.k=4;.rw[Af r];obtain⟨h1,u,e,w1,d⟩:=j2 w g ht hv C;refine⟨_,_,?_,w1,d⟩;rw[Ag,Nh,uy];simp only[abS,↓reduceIte,c.Ae,f.Ae,j.Ae,l.Ae,m.Ae,p.Ae,i,BG r,e.Ae]
 rw[Ac r];by_cases v:t.st û;.rw[Af v];have q:=Gq jj t av h;rw[Ak v] at q;obtain⟨h1,u,e,w1,d⟩:=j2 w g ht hv C;refine⟨_,_,?_,w1,d⟩;rw[Ag,Nh,uy];simp only[abS,↓reduceIte,c.Ae,f.Ae,j.Ae,l.Ae,m.Ae,p.Ae,q.Ae,i,r,e.Ae]
 rw[Ac v];have q:=Gq jj t av h;rw[Ap v] at q;obtain⟨h1,u,e,w1,d⟩:=P6 w (g.dn (n':=n) Ab);obtain⟨h2,H,r2,E,D⟩:=vA w1 4;refine⟨_,_,?_,E,d.trans D⟩;rw[Ag,Nh,uy];simp only[abS,↓reduceIte,c.Ae,f.Ae,j.Ae,l.Ae,m.Ae,p.Ae,q.Ae,i,r,e.Ae,r2.Ae,BS.again]
def aPl(w:PB h bi b F)(g:Gz b (n+1005) o a)(ho:Np b)(ht:t.Sm)(hv:Bw t.As av)(hs:t.st F6):Gc h F 80 [.ptr (some (bi,0)),.agg (CE t av),.func (.func 48) [] []] (.bool (b.E7 t).2) bi (b.E7 t).1:=by
 have Ci:=w.Ci;obtain⟨h1,u,m,w1,f⟩:=aGq w g (BS.DD b.head);have g1:=Gz.push (n:=n+1004) g ho;have hx:¬t.st [aWu]:=λh=>by have h1:=h.2;have h2:=hs.2;rw[Bq.1 h1] at h2;revert h2;decide
 obtain⟨h2,s,r2,j,d⟩:=j2 w1 g1 ht hv (λh=>absurd h hx);obtain⟨r,h3,q,k,i,c⟩:=Zj j (g1.De ht) b.head;refine⟨h3,q,?_,i,(f.trans d).trans c⟩;have e:AH (.C7 [I 0,I 0,S [],ff] [(0,1),(1,1),(2,1)]) [.int .i64 b.head,I 1,S aWy]=some (.agg (BS.DD b.head).row):=rfl;have p:∀l,CN (.func (.func 48) [] []) l=some (48,l):=λl=>by simp[CN]
 rw[Ag,À,t80];simp only[Cx,Ci,e,m.Ae,p,r2.Ae,k.Ae];rfl
def aPm(w:PB h bi b F)(g:Gz b (n+1005) o a)(ht:t.Sm)(hv:Bw t.As av)(ho:Np b)(K:t.st [aWu]->Gc h F 51 [.ptr (some (bi,0)),.agg (CE t av)] ff bi (b.IM t)):Gc h F 50 [.ptr (some (bi,0)),.agg (CE t av)] (.bool (b.Gn t).2) bi (b.Gn t).1:=by
 have Ci:=w.Ci;unfold BS.Gn;by_cases I:¬t.ok;.rw[Af I];have e:=KA w t av;rw[Ap I] at e;refine⟨_,_,?_,w,.refl⟩;rw[Ag,Lw,yP];simp only[abS,↓reduceIte,e.Ae]
 rw[Ac I];have e:=KA w t av;rw[Ak (ET.1 I)] at e;by_cases i:t.k=1;.rw[Af i];refine⟨_,_,?_,w,.refl⟩;rw[Ag,Lw,yP];simp only[abS,↓reduceIte,e.Ae,BG i]
 rw[Ac i];by_cases H:t.st [aWy];.rw[Af H];have f:=Gq Mg t av h;rw[Ak H] at f;refine⟨_,_,?_,w,.refl⟩;rw[Ag,Lw,yP];simp only[abS,↓reduceIte,e.Ae,f.Ae,i]
 rw[Ac H];have f:=Gq Mg t av h;rw[Ap H] at f;by_cases G:t.lL uW;.rw[Af G];have j:=aI dN t av h;rw[Ak G] at j;refine⟨_,_,?_,w,.refl⟩;rw[Ag,Lw,yP];simp only[abS,↓reduceIte,e.Ae,f.Ae,j.Ae,i]
 rw[Ac G];have j:=aI dN t av h;rw[Ap G] at j;by_cases E:t.JE;.rw[Af E];have l:=T6 t av h;rw[Ak E] at l;obtain⟨h1,v,c,w1,d⟩:=Zg w (g.dn (n':=n+5) Ab) ht.r;refine⟨_,_,?_,w1,d⟩;rw[Ag,Lw,yP];simp only[abS,↓reduceIte,e.Ae,f.Ae,j.Ae,l.Ae,i,c.Ae]
 rw[Ac E];have l:=T6 t av h;rw[Ap E] at l;by_cases p:t.k=4;.rw[Af p];obtain⟨h1,v,c,w1,d⟩:=MU (s:=t.data) w (g.dn (n':=n+1) Ab) (by have:=ht.data;omega) 0;refine⟨_,_,?_,w1,d⟩;rw[Ag,Lw,yP];simp only[abS,↓reduceIte,e.Ae,f.Ae,j.Ae,l.Ae,i,BG p,c.Ae]
 rw[Ac p];by_cases B:t.st [aWu];.rw[Af B];have m:=Gq JX t av h;rw[Ak B] at m;obtain⟨h1,v,c,w1,d⟩:=K B;refine⟨_,_,?_,w1,d⟩;rw[Ag,Lw,yP];simp only[abS,↓reduceIte,e.Ae,f.Ae,j.Ae,l.Ae,m.Ae,i,p,c.Ae]
 rw[Ac B];have m:=Gq JX t av h;rw[Ap B] at m;by_cases D:t.st [aWz];.rw[Af D];have q:=Gq pG t av h;rw[Ak D] at q;obtain⟨h1,v,c,w1,d⟩:=Fp w (g.dn (n':=n+4) Ab) ht hv;obtain⟨J,z,y⟩:=Mf w1 false;obtain⟨N,M,L⟩:=GH z 7;refine⟨_,_,?_,M,(d.trans y).trans L⟩;rw[Ag,Lw,yP];simp only[abS,↓reduceIte,e.Ae,f.Ae,j.Ae,l.Ae,m.Ae,q.Ae,i,p,c.Ae,J,N]
 rw[Ac D];have q:=Gq pG t av h;rw[Ap D] at q;by_cases C:t.st [aWA];.rw[Af C];have u:=Gq T7 t av h;rw[Ak C] at u;obtain⟨h1,v,c,w1,d⟩:=Fp w (g.dn (n':=n+4) Ab) ht hv;obtain⟨J,z,y⟩:=GH w1 20;refine⟨_,_,?_,z,d.trans y⟩;rw[Ag,Lw,yP];simp only[abS,↓reduceIte,e.Ae,f.Ae,j.Ae,l.Ae,m.Ae,q.Ae,u.Ae,i,p,c.Ae,J]
 rw[Ac C];have u:=Gq T7 t av h;rw[Ap C] at u;by_cases A:t.st F6;.rw[Af A];have x:=Gq RC t av h;rw[Ak A] at x;obtain⟨h1,v,c,w1,d⟩:=aPl w g ho ht hv A;refine⟨_,_,?_,w1,d⟩;rw[Ag,Lw,yP];simp only[abS,↓reduceIte,e.Ae,f.Ae,j.Ae,l.Ae,m.Ae,q.Ae,u.Ae,x.Ae,i,p,c.Ae]
 rw[Ac A];have x:=Gq RC t av h;rw[Ap A] at x;by_cases O1:t.en [AT];.rw[Af O1];have vC:=aH Hl t av h;rw[Ak O1] at vC;obtain⟨h1,v,c,w1,d⟩:=j2 w (g.dn (n':=n+1004) Ab) ht hv K;refine⟨_,_,?_,w1,d⟩;rw[Ag,Lw,yP];simp only[abS,↓reduceIte,e.Ae,f.Ae,j.Ae,l.Ae,m.Ae,q.Ae,u.Ae,x.Ae,vC.Ae,i,p,c.Ae]
 rw[Ac O1];have vC:=aH Hl t av h;rw[Ap O1] at vC;have rt:=ĉ aWz h;obtain⟨h1,v,c,w1,d⟩:=Fp (t:=JV aWz) (av:= .slnil) w (g.dn (n':=n+4) Ab) (J3 AA) (.inr ⟨rfl,rfl⟩);obtain⟨h2,O,r2,z,y⟩:=vA w1 7;simp only[JV] at rt c;refine⟨_,_,?_,z,d.trans y⟩;rw[Ag,Lw,yP];simp only[abS,↓reduceIte,e.Ae,f.Ae,j.Ae,l.Ae,m.Ae,q.Ae,u.Ae,x.Ae,vC.Ae,i,p,rt.Ae,c.Ae,r2.Ae,BS.again]
def aPn(w:PB h bi b F)(g:Gz b (n+5) o a)(ht:t.Sm)(hv:Bw t.As av):Gc h F 52 [.ptr (some (bi,0)),.agg (CE t av)] (.bool (b.LA t).2) bi (b.LA t).1:=by
 have Ci:=w.Ci;unfold BS.LA;by_cases m:¬t.ok;.rw[Af m];have d:=KA w t av;rw[Ap m] at d;refine⟨_,_,?_,w,.refl⟩;rw[Ag,UT,t52];simp only[abS,↓reduceIte,d.Ae]
 rw[Ac m];have d:=KA w t av;rw[Ak (ET.1 m)] at d;by_cases e:t.k=5;.rw[Af e];obtain⟨h1,u,i,w1,f⟩:=Zg w (g.dn (n':=n+5) Ab) ht.r;refine⟨_,_,?_,w1,f⟩;rw[Ag,UT,t52];simp only[abS,↓reduceIte,d.Ae,BG e,i.Ae]
 rw[Ac e];by_cases j:t.k=6
 .rw[Af j];obtain⟨h1,u,i,w1,f⟩:=P6 w (g.dn (n':=n) Ab);have s:b.FY.IE=b.IE:=by unfold BS.FY;split<;>rfl
  have c:=w1.Ci;rw[s] at c;obtain⟨h2,x,r2,q,p⟩:=vA w1 b.IE;refine⟨_,_,?_,q,f.trans p⟩;rw[Ag,UT,t52];simp only[abS,↓reduceIte,d.Ae,e,BG j,i.Ae,c,r2.Ae,BS.again]
 rw[Ac j];by_cases l:t.k=3
 .rw[Af l];obtain⟨h1,u,i,w1,f⟩:=P6 w (g.dn (n':=n) Ab);have s:b.FY.IE=b.IE:=by unfold BS.FY;split<;>rfl
  have c:=w1.Ci;rw[s] at c;obtain⟨v,q,p⟩:=GH w1 b.IE;refine⟨_,_,?_,q,f.trans p⟩;rw[Ag,UT,t52];simp only[abS,↓reduceIte,d.Ae,e,j,BG l,i.Ae,c,v]
 rw[Ac l];refine⟨_,_,?_,w,.refl⟩;rw[Ag,UT,t52];simp only[abS,↓reduceIte,d.Ae,e,j,l]
end
end Go.Am
end
