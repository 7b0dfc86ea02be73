/- Lemmas -/
import Derived.Test.YtjjnhgoknielgaaGreatDoorW25
import Derived.Test.YtjjnhgoknielgaaGreatDoorW27
set_option linter.all false
noncomputable section
set_option maxRecDepth 100000
section
namespace Go.Am
open Go
structure Dr where
 k:Int
 name:Ah
 hn:Bool
 Lg:Ah
 hp:Bool
 sys:Ah
 hs:Bool
 q:Bool
 As:List Bj
 sc:Bool
 data:Ah
 r:Int
namespace Dr
def ok(t:Dr):Prop:=1<=t.k/\t.k<=6
instance(t:Dr):Decidable t.ok:=by unfold ok;infer_instance
def st(t:Dr)(ws:List Ah):Prop:=t.k=2/\t.name∈ws
instance(t:Dr)(ws:List Ah):Decidable (t.st ws):=by unfold st;infer_instance
def en(t:Dr)(ws:List Ah):Prop:=t.k=3/\t.name∈ws
instance(t:Dr)(ws:List Ah):Decidable (t.en ws):=by unfold en;infer_instance
def bD(t:Dr)(ws:List Ah):Prop:=t.k=3/\t.name∉ws
instance(t:Dr)(ws:List Ah):Decidable (t.bD ws):=by unfold bD;infer_instance
end Dr
def Qr(r:Int):Prop:=(9<=r/\r<=10)\/(12<=r/\r<=13)\/r=32
instance(r:Int):Decidable (Qr r):=by unfold Qr;infer_instance
namespace Dr
def E8(t:Dr):Prop:=t.k=5/\Qr t.r
instance(t:Dr):Decidable t.E8:=by unfold E8;infer_instance
end Dr
def Gj(nm:Ah):Dr:=⟨2,nm,false,[],false,[],false,false,[],false,[],0⟩
def eHB:List Ah:=[aXR,aXS,aXM,[98,114]]
def lq:List Ah:=[aXR,aXP,aXS,aXM,[98,114]]
def wQ:List Ah:=[aXP,aXS,aXM,[98,114]]
def eNo:List Ah:=[aXY,[98,114]]
def V6:List Ah:=[[98,97,115,101],aY9,aZg,aZQ,[109,101,116,97]]
def sNS:List Ah:=[aYO,aZh]
def ĵ:List Ah:=[aY9,aZg,aZQ,[109,101,116,97],aYO,aZh]
def sHN:List Ah:=[aXR,aXY]
def Ge:List Ah:=[[98,97,115,101],aY9,aZg,aZQ,[109,101,116,97],aYO,aYq,aZh,aXP,aX7]
def sT1:List Ah:=[aYe,aYm,aYB,aYy,aYC]
def sTd:List Ah:=[[116,100],[116,104]]
def lA:List Ah:=[aZi,[97,114,116,105,99,108,101],[97,115,105,100,101],aZm,[99,101,110,116,101,114],[100,101,116,97,105,108,115],[100,105,97,108,111,103],[100,105,114],[100,105,118],[100,108],aZv,aZn,[102,105,103,117,114,101],[102,111,111,116,101,114],[104,101,97,100,101,114],[104,103,114,111,117,112],[109,97,105,110],[109,101,110,117],[110,97,118],[111,108],[112],[115,101,97,114,99,104],[115,101,99,116,105,111,110],[115,117,109,109,97,114,121],[117,108]]
def aB0:List Ah:=[[112,114,101],[108,105,115,116,105,110,103]]
def ve:List Ah:=[[98],[98,105,103],[99,111,100,101],[101,109],aZM,[105],[115],aZD,aZr,aZs,[116,116],[117]]
def WJ:List Ah:=[aY6,aYX,aZa]
def lB:List Ah:=[[97,114,101,97],[98,114],[101,109,98,101,100],aZw,aZk,[107,101,121,103,101,110],[119,98,114],aZf,aZp,aY7,aZq,[104,114]]
def ls:List Ah:=[aYe,aZe,aYm,[102,114,97,109,101],aXR,aYB,[116,100],aYy,[116,104],aYC,[116,114]]
def qS:List Ah:=[aYI,aZx,aYV,[110,111,101,109,98,101,100],aYr]
def ly:List Ah:=[[114,98],aY5,[114,112],[114,116]]
def aB1:List Ah:=[aYG,[115,118,103]]
def lz:List Ah:=[[108,105],[100,100],[100,116]]
def aB2:List Ah:=[aYu,aX0]
def Q7:List Ah:=[aXM,aXS]
def Q8:List Ah:=[aZi,[97,114,116,105,99,108,101],[97,115,105,100,101],aZm,aXQ,[99,101,110,116,101,114],[100,101,116,97,105,108,115],[100,105,97,108,111,103],[100,105,114],[100,105,118],[100,108],aZv,aZn,[102,105,103,117,114,101],[102,111,111,116,101,114],[104,101,97,100,101,114],[104,103,114,111,117,112],[108,105,115,116,105,110,103],[109,97,105,110],[109,101,110,117],[110,97,118],[111,108],[112,114,101],[115,101,97,114,99,104],[115,101,99,116,105,111,110],[115,117,109,109,97,114,121],[117,108]]
def Ķ:List Ah:=[[97],[98],[98,105,103],[99,111,100,101],[101,109],aZM,[105],aYc,[115],aZD,aZr,aZs,[116,116],[117]]
def Zt:List Ah:=[[112],[108,105],[100,100],[100,116]]
def bE:List Ah:=[aZi,[100,105,118],[112]]
def wDD:List Ah:=[[100,100],[100,116]]
def aB3:List Ah:=[aZp,aY7,aZq]
namespace BS
def Cr(b:BS)(t:Dr):BS:=b.Co t.name t.As 1
def GR(b:BS)(t:Dr):BS:=(b.Cr t).FB
def NP(b:BS):BS:={b with a:=b.a.set b.BM {b.a.nd b.BM with DX:=true}}
def Nw(b:BS)(t:Dr):BS:={b with a:=(b.a.add {kind:=3,BM:=b.BM,name:=t.name,Lg:=t.Lg,sys:=t.sys}).F9 b.BM (b.a.len+1) 0}
def again(b:BS)(m:Int):BS×Bool:=({b with mode:=m},true)
def Ox(b:BS):Prop:=0<=AD (AH [AW]) b.Au
instance(b:BS):Decidable b.Ox:=by unfold Ox;infer_instance
def has(b:BS)(ws:List Ah):Bool:=IC (AH ws) (Im 1) b.Au.reverse
def Dw(b:BS)(nm ex:Ah):BS:={b with Au:=D6 Dm (AH [nm]) (D6 (CL ex) Dm b.Au)}
def I3(b:BS)(t:Dr):BS:=if b.Ox\/b.Au=[] then b else b.FJ t.As (El b.Au 0).node
def MH(b:BS):Bool:=decide (2<=b.Au.length)&&AH [aXS] (El b.Au 1)
def Jq(b:BS)(t:Dr):BS:=
 if b.Ox\/b.Au=[] then b else if t.name=aXM then b.FJ t.As (El b.Au 0).node
 else if b.MH then({b with fs:=false}:BS).FJ t.As (El b.Au 1).node else b
def Gq(DX:Dr->Bool)(b:BS)(t:Dr):BS×Bool:=
 if¬t.ok then(b,false)
 else if t.E8 then(b,false)
 else if t.k=4 then(b.DD t.data b.BM,false)
 else if t.k≠1 then b.NP.again 2
 else
  let b1:=b.Nw t
  let b2:=if DX t then b1.NP else b1
  ({b2 with mode:=2},false)
def DY(b:BS)(t:Dr):BS×Bool:=
 if¬t.ok then(b,false)
 else if t.k=1 then(b,false)
 else if t.E8 then(b,false)
 else if t.bD eHB then(b,false)
 else if t.k=4 then(b.DD t.data b.BM,false)
 else if t.st [aXM] then({b.Cr t with mode:=3},false)
 else(b.Cr (Gj aXM)).again 3
def DZ(b:BS)(t:Dr):BS×Bool:=
 if¬t.ok then(b,false)
 else if t.k=1 then(b,false)
 else if t.E8 then(b,false)
 else if t.bD eHB then(b,false)
 else if t.k=4 then(b.DD t.data 0,false)
 else if t.st [aXM] then(b.I3 t,false)
 else if t.st [aXR] then({b.Cr t with head:=b.Li 1,mode:=4},false)
 else({b.Cr (Gj aXR) with head:=b.Li 1}:BS).again 4
def C2(b:BS)(t:Dr):BS×Bool:=
 if¬t.ok then(b,false)
 else if t.k=1 then(b,false)
 else if t.st [aXR] then(b,false)
 else if t.bD lq then(b,false)
 else if t.E8 then(b.Jk t.r,false)
 else if t.k=4 then(b.DD t.data 0,false)
 else if t.st [aXM] then(b.I3 t,false)
 else if t.st V6 then(b.GR t,false)
 else if t.st [aX7] then(b.Dj t.name t.As 2,false)
 else if t.st sNS then(b.Dj t.name t.As 3,false)
 else if t.st [aYq] then(b.Dj t.name t.As 4,false)
 else if t.st [aXY] then({b.Cr t with mode:=5},false)
 else if t.en [aXR] then({b.FB with mode:=6},false)
 else if t.st [AW] then
  let b1:=b.Cr t
  ({b1 with A3:=b1.A3++[Cn.zero],fs:=false,mode:=18,tm:=b1.tm++[18]},false)
 else if t.en [AW] then(b.Dn,false)
 else b.FB.again 6
def FG(b:BS)(t:Dr):BS×Bool:=
 if¬t.ok then(b,false)
 else if t.k=1 then(b,false)
 else if t.st sHN then(b,false)
 else if t.bD eNo then(b,false)
 else if t.st [aXM] then(b.I3 t,false)
 else if t.en [aXY] then({b.FB with mode:=4},false)
 else if t.E8 then b.C2 t
 else if t.k=4 then b.C2 t
 else if t.st ĵ then b.C2 t
 else b.FB.again 4
def DF(n:Int):Item:=⟨n,1,aXR,false⟩
def Fe(b:BS)(t:Dr):BS×Bool:=
 let r:=({b with Au:=b.Au++[DF b.head]}:BS).C2 t
 ({r.1 with Au:=Cg b.head r.1.Au},r.2)
def Ex(b:BS)(t:Dr):BS×Bool:=
 if¬t.ok then(b,false)
 else if t.k=1 then(b,false)
 else if t.st [aXR] then(b,false)
 else if t.bD wQ then(b,false)
 else if t.E8 then(b.Jk t.r,false)
 else if t.k=4 then(b.DD t.data 0,false)
 else if t.st [aXM] then(b.I3 t,false)
 else if t.st [aXS] then({b.Cr t with fs:=false,mode:=7},false)
 else if t.st [aXV] then({b.Cr t with mode:=20},false)
 else if t.st Ge then b.Fe t
 else if t.en [AW] then b.C2 t
 else(b.Cr (Gj aXS)).again 7
def LL(b:BS)(t:Dr):BS×Bool:=
 if¬t.ok then(b,false)
 else if t.k=5 then(b.Jk t.r,false)
 else if t.k=6 then b.FB.again b.IV
 else if t.k=3 then({b.FB with mode:=b.IV},false)
 else(b,false)
def aHr(b:BS):BS:={b with tm:=b.tm.dropLast}
def E9(b:BS)(m:Int):BS×Bool:=({b with tm:=b.tm.dropLast++[m]}:BS).again m
def HL(b:BS)(t:Dr):BS:=
 if t.r=0 then b else
 let b1:=b.AM.Jk t.r
 if t.E8 then b1 else{b1 with fs:=false}
def MI(b:BS):BS×Bool:=
 if b.Ox then(({b with Au:=D6 Dm (AH [AW]) b.Au,A3:=FF b.A3,tm:=b.tm.dropLast}:BS).JR,true)
 else({b with stop:=true},false)
def D0(b:BS)(t:Dr):BS×Bool:=
 if¬t.ok then(b,false)
 else if t.k=5 then(b.HL t,false)
 else if t.k=4 then(b.DD t.data 0,false)
 else if t.k=1 then(b,false)
 else if t.st Ge then b.C2 t
 else if t.en [AW] then b.C2 t
 else if t.st sT1 then b.E9 9
 else if t.st [aZe] then b.E9 12
 else if t.st [[116,114]] then b.E9 13
 else if t.st sTd then b.E9 14
 else if t.k=2 then b.E9 7
 else if t.k=3 then(b,false)
 else b.MI
def block(b:BS)(t:Dr):BS:=b.B7.Cr t
def Iq(b:BS)(t:Dr):BS:=
 let b1:=b.B7
 (if AH Dg (DP b1.Au) then b1.FB else b1).Cr t
def J4(b:BS)(t:Dr):BS:={b.block t with skip:=true,fs:=false}
def MP(b:BS)(t:Dr):BS:=
 if b.Ha≠0/\¬b.Ox then b else
 let b1:=b.B7
 if b.Ox then b1.Cr t else{b1.Cr t with Ha:=b1.Li 1}
def JU(ws:List Ah)(i:Item):Bool:=AH ws i||(AS i&& !(AH bE i))
def FW(b:BS)(ws:List Ah):BS:=match b.Au.reverse.find? (JU ws) with
 |some i=>if AH ws i then b.Dw i.name i.name else b
 |none=>b
def SX(b:BS)(t:Dr):BS:=(({b with fs:=false}:BS).FW (if t.name=[108,105] then[[108,105]] else wDD)).block t
def KX(b:BS)(t:Dr):BS:=
 let b1:=if b.has [aXQ] then b.Dw aXQ [] else b
 {b1.AM.Cr t with fs:=false}
def wR(b:BS)(t:Dr):BS:=b.AM.Eu t.name t.As
def Ke(l:List Cn)(n:Int):List Cn:=if FU n l<0 then l else BA l (FU n l).toNat
def Nx(b:BS):BS:=
 let k:=DT [97] b.A3
 if k<0 then b else
 let n:=(b.A3.getD k.toNat Cn.zero).node
 let b1:=b.C7 [97]
 {b1 with A3:=Ke b1.A3 n,Au:=Cg n b1.Au}
def WK(b:BS)(t:Dr):BS:=b.Nx.wR t
def Ui(b:BS)(t:Dr):BS:=
 let b1:=b.AM
 (if b1.has [aYc] then(b1.C7 aYc).AM else b1).Eu t.name t.As
def BV(b:BS)(t:Dr):BS:=
 let b1:=b.AM.Cr t
 {b1 with A3:=b1.A3++[Cn.zero],fs:=false}
def SY(b:BS)(t:Dr):BS:=
 let b1:=if(b.a.nd b.BM).DX then b else b.B7
 {b1.Cr t with fs:=false,mode:=9}
def Q9(l:List Bj):Bool:=match l.find? λa=>decide (a.name=aYW) with
 |some a=>decide (Fk a.value=aYK)
 |none=>false
def empty(b:BS)(t:Dr):BS:=
 if t.name=[104,114] then{b.B7.GR t with fs:=false}
 else if t.name∈aB3 then{b.GR t with fs:=b.fs}
 else if t.name=aZf then{b.AM.GR t with fs:=b.fs&&Q9 t.As}
 else{b.AM.GR {t with name:=if t.name=aZk then aZw else t.name} with fs:=false}
def Zu(b:BS)(t:Dr):BS:=
 if t.name=aYr then{b.block t with sw:=5}
 else if t.name=aYI then{b.Dj t.name t.As 2 with skip:=true,fs:=false}
 else if t.name=aZx then({b.B7.AM with fs:=false}:BS).Dj t.name t.As 3
 else if t.name=aYV then({b with fs:=false}:BS).Dj t.name t.As 3
 else b.Dj t.name t.As 3
def Vl(b:BS)(t:Dr):BS:=
 {b.AM.Cr t with fs:=false,mode:=if b.mode=9\/b.mode=11\/b.mode=13\/b.mode=14\/b.mode=15 then 17 else 16}
def KY(b:BS)(t:Dr):BS:=(if AH [aX0] (DP b.Au) then b.FB else b).AM.Cr t
def SZ(b:BS)(t:Dr):BS:=
 (if b.has [aYY] then{b with Au:=D6 (CL (if t.name=[114,112]\/t.name=[114,116] then aY5 else[])) Dm b.Au} else b).Cr t
def HR(b:BS)(t:Dr):BS:=
 let b1:=b.AM.Co t.name t.As (if t.name=aYG then 3 else 2)
 if t.sc then b1.FB else b1
def JL(b:BS)(t:Dr):BS:=
 if b.MH=false\/b.fs=false then b else
 {({b with a:=b.a.cut (El b.Au 1).node,Au:=b.Au.take 1}:BS).Cr t with mode:=20}
def opens(b:BS)(t:Dr):BS×Bool:=
 if t.name∈Ge then b.C2 t
 else if t.name∈lA then(b.block t,false)
 else if t.name∈Dg then(b.Iq t,false)
 else if t.name∈aB0 then(b.J4 t,false)
 else if t.name∈ve then(b.wR t,false)
 else if t.name∈WJ then(b.BV t,false)
 else if t.name∈lB then(b.empty t,false)
 else if t.name∈ls then(b,false)
 else if t.name∈qS then(b.Zu t,false)
 else if t.name∈ly then(b.SZ t,false)
 else if t.name∈aB1 then(b.HR t,false)
 else if t.name∈lz then(b.SX t,false)
 else if t.name∈aB2 then(b.KY t,false)
 else if t.name∈Q7 then(b.Jq t,false)
 else if t.name=aXV then(b.JL t,false)
 else if t.name=aYd then(b.MP t,false)
 else if t.name=aXQ then(b.KX t,false)
 else if t.name=[97] then(b.WK t,false)
 else if t.name=aYc then(b.Ui t,false)
 else if t.name=aX4 then(b.SY t,false)
 else if t.name=aYp then(b.Vl t,false)
 else(b.AM.Cr t,false)
def PZ(b:BS)(t:Dr):BS×Bool:=if b.has [aXS] then({b with mode:=19},decide (t.name=aXM)) else(b,false)
def Fa(b:BS)(t:Dr):BS:=if b.has [t.name] then b.Dw t.name [] else b
def FH(b:BS):BS:=if b.has Dg then{b with Au:=D6 Dm (AH Dg) (D6 (CL []) Dm b.Au)} else b
def GA(b:BS)(t:Dr):BS:=if b.has [t.name] then{b.Dw t.name [] with A3:=FF b.A3} else b
def N7(b:BS)(sc:Int)(q:Item->Bool):Bool:=IC q (Im sc) b.Au.reverse
def HS(b:BS)(t:Dr):BS:=
 let s:=b.N7 (if t.name=[112] then 3 else if t.name=[108,105] then 2 else 1) (AH [t.name])
 if s then b.Dw t.name t.name
 else if t.name=[112] then(b.Cr (Gj [112])).Dw t.name t.name else b
def JM(b:BS)(t:Dr):BS:=
 if b.Ox then b.Fa t
 else if b.Ha≠0/\b.N7 1 (Bt b.Ha) then{b with Ha:=0,Au:=Cg b.Ha (D6 (CL []) Dm b.Au)}
 else{b with Ha:=0}
def MJ(b:BS)(t:Dr):BS×Bool:=
 if t.name=AW then b.C2 t
 else if t.name∈Q7 then b.PZ t
 else if t.name∈Q8 then(b.Fa t,false)
 else if t.name∈Ķ then(b.C7 t.name,false)
 else if t.name∈Dg then(b.FH,false)
 else if t.name∈WJ then(b.GA t,false)
 else if t.name∈Zt then(b.HS t,false)
 else if t.name=aYd then(b.JM t,false)
 else if t.name=[98,114] then(b.empty (Gj [98,114]),false)
 else(b.C1 t.name,false)
def H7(b:BS)(t:Dr):BS×Bool:=
 if¬t.ok then(b,false)
 else if t.k=5 then(b.HL t,false)
 else if t.k=4 then(b.DD t.data 0,false)
 else if t.k=6 then(if 0<b.tm.length then b.D0 t else({b with stop:=true},false))
 else if t.k=2 then b.opens t
 else if t.k=3 then b.MJ t
 else(b,false)
def apply(DX:Dr->Bool)(b:BS)(t:Dr):BS×Bool:=
 if¬t.ok then(b,false)
 else if b.mode=1 then b.Gq DX t
 else if b.mode=2 then b.DY t
 else if b.mode=3 then b.DZ t
 else if b.mode=4 then b.C2 t
 else if b.mode=5 then b.FG t
 else if b.mode=6 then b.Ex t
 else if b.mode=7 then b.H7 t
 else if b.mode=8 then b.LL t
 else if b.mode=18 then b.D0 t
 else(b,false)
end BS
structure Gz(b:BS)(n o a:Nat):Prop where
 ok:EC b
 rm:CH b n
 Au:b.Au.length<=o
 A3:b.A3.length<=a
structure Dr.Sm(t:Dr):Prop where
 name:t.name.length<=1000
 As:GQ t.As
 data:t.data.length<=1000
 r: -2147483648<=t.r/\t.r<=2147483647
structure Ny(b:BS):Prop where
 has:b.a.has b.head
 kind:(b.a.nd b.head).kind=4
 Bd:(b.a.nd b.head).Bd=1
 name:(b.a.nd b.head).name=aXR
 no:b.head∉b.Au.map Item.node
section
variable{b b':BS}{n n' o o' a a':Nat}{nm:Ah}{l:List Bj}{t:Dr}{sp:Int}
def Gz.le(g:Gz b n o a)(h1:n'<=n)(h2:o<=o')(h3:a<=a'):Gz b n' o' a':=⟨g.ok,g.rm.le h1,Bw g.Au h2,Bw g.A3 h3⟩
def Gz.ite{c:Prop}[Decidable c]{x y:BS×Bool}(h1:Gz x.1 n o a)(h2:Gz y.1 n o a):Gz (if c then x else y).1 n o a:=by split;exact h1;exact h2
def Gz.aHs{d c:Prop}[Decidable d][Decidable c]{x y:BS×Bool}(h1:Gz x.1 n o a)(h2:Gz y.1 n o a):Gz (if d then x else if c then x else y).1 n o a:= .ite h1 (.ite h1 h2)
def Gz.aLv{e d c:Prop}[Decidable e][Decidable d][Decidable c]{x y:BS×Bool}(h1:Gz x.1 n o a)(h2:Gz y.1 n o a):Gz (if e then x else if d then x else if c then x else y).1 n o a:= .ite h1 (.aHs h1 h2)
def Gz.ķ{f e d c:Prop}[Decidable f][Decidable e][Decidable d][Decidable c]{x y:BS×Bool}(h1:Gz x.1 n o a)(h2:Gz y.1 n o a):Gz (if f then x else if e then x else if d then x else if c then x else y).1 n o a:= .ite h1 (.aLv h1 h2)
def Gz.dn(g:Gz b n o a)(h:n'<=n):Gz b n' o a:=g.le h (Ad _) (Ad _)
def Gz.Mw(g:Gz b (n+4) o a)(hl:GQ l)(hn:nm.length<=1000):Gz (b.Co nm l sp) n (o+1) a:=by
 refine⟨YZ g.ok,Q0 g.rm hl hn,?_,by rw[H6];exact g.A3⟩;have:=g.Au;unfold BS.Co;split
 .rename_i hs;have e:(b.Gf nm l sp (b.place 0).1).Au=b.Au:=by unfold BS.Gf;rw[Ae hs]
  simp only[e,An,AQ];omega
 .omega
def Gz.eq{c:BS}(g:Gz b n o a)(h1:c.a=b.a)(h2:c.BM=b.BM)(h3:c.Au=b.Au)(d:c.A3=b.A3)(e:c.tm=b.tm):Gz c n o a:=
 ⟨g.ok.of_eq h1 h2 h3 d,g.rm.eq h1 h3 d e,by rw[h3];exact g.Au,by rw[d];exact g.A3⟩
def Gz.sub(g:Gz b n o a){lo:List Item}{lc:List Cn}{lt:List Int}(h1:lo.Sublist b.Au)(h2:lc.Sublist b.A3)(h3:lt.length<=b.tm.length):Gz {b with Au:=lo,A3:=lc,tm:=lt} n o a:=
 ⟨((g.ok.KH h1).iO (by exact h2)).of_eq rfl rfl rfl rfl,g.rm.sub rfl h1 h2 h3,Bw h1.length_le g.Au,Bw h2.length_le g.A3⟩
def Gz.KH(g:Gz b n o a){lo:List Item}(h1:lo.Sublist b.Au):Gz {b with Au:=lo} n o a:=g.sub h1 (BR _) (Ad _)
def Gz.Eu(g:Gz b (n+5) o a)(hl:GQ l)(hn:nm.length<=1000):Gz (b.Eu nm l) n (o+1) (a+1):=by
 have g1:=(g.le (n':=n+1+4) Ac (Ad _) (Ad _)).Mw (sp:=1) hl hn;refine⟨dU g.ok,pS g.rm hl hn,g1.Au,?_⟩;unfold BS.Eu;simp only
 obtain⟨l',h1,h2⟩:=T0 (l:=(b.Co nm l 1).A3) (e:=⟨b.a.len+1,nm,l⟩);rw[h2,An,AQ];have:=h1.length_le;have:=g1.A3;omega
def Gz.AM(g:Gz b (n+4*a) o a):Gz b.AM n (o+a) a:=by have h1:=g.A3;have h2:=g.Au;have h:=kY (m:=n) (g.rm.le Ac);exact⟨Y3 g.ok,h.1,Ac,Ac⟩
def Gz.C7(g:Gz b (n+8*(4*(o+8)+10)) o a):Gz (b.C7 nm) n (o+8) (a+8):=by
 refine⟨dY g.ok,?_,?_,?_⟩<;>unfold BS.C7<;>split
 .unfold BS.FB;split;.exact g.rm.le Ac
  .exact(g.rm.KH (Ch _ _)).le Ac
 .exact(Q4 g.Au g.rm).1
 .have:=g.Au;unfold BS.FB;split;.omega
  .simp only[Ax];omega
 .exact(Q4 g.Au g.rm).2
 .have:=g.A3;unfold BS.FB;split<;>(try simp only)<;>omega
 .have:=g.A3;have:=Zr (n:=8) (b:=b) (nm:=nm);omega
def Gz.Jk(g:Gz b (n+5) o a){r:Int}:Gz (b.Jk r) n o a:=⟨aq g.ok,qO g.rm (qH _),g.Au,g.A3⟩
def Gz.DD(g:Gz b (n+5) o a){s:Ah}(hs:s.length<=1000){p:Int}:Gz (b.DD s p) n o a:=by
 refine⟨Y2 g.ok,?_,g.Au,g.A3⟩;unfold BS.DD;split;.exact Q5 g.rm Ac
 .exact Q5 g.rm Ac
def Gz.FJ(g:Gz b (n+1000) o a)(hl:GQ l){h:Int}:Gz (b.FJ l h) n o a:=by
 refine⟨pQ g.ok,wO g.rm hl.1,?_,?_⟩<;>unfold BS.FJ<;>split;.exact g.Au
 .exact g.Au
 .exact g.A3
 .exact g.A3
def Gz.FB(g:Gz b n o a):Gz b.FB n o a:=by
 unfold BS.FB;split;.exact g
 .exact g.KH (Ch _ _)
def Gz.Dw(g:Gz b n o a){x:Ah}:Gz (b.Dw nm x) n o a:=g.KH (Dh.trans Dh)
def Gz.B7(g:Gz b n o a):Gz b.B7 n o a:=by
 unfold BS.B7;split;.exact g.KH (Dh.trans Dh)
 .exact g
def Gz.C1(g:Gz b n o a):Gz (b.C1 nm) n o a:=by
 unfold BS.C1;split
 .split;.exact g.KH (Jm.trans Dh)
  .exact g
 .exact g
def Gz.JR(g:Gz b n o a):Gz b.JR n o a:=g.eq rfl rfl rfl rfl rfl
def Gz.mark(g:Gz b (n+1) o a):Gz {b with A3:=b.A3++[Cn.zero]} n o (a+1):=by
 refine⟨kX g.ok,g.rm.aC9 (e:=Cn.zero) AB (λe he=>?_) ⟨Az,Az,λa ha=>by cases ha⟩,g.Au,?_⟩
 .rcases Ao.1 he with he|he
  .exact .inl he
  .exact .inr (by simpa using he)
 .have:=g.A3;simp only[An,AQ];omega
def Gz.tm(g:Gz b (n+1) o a){m:Int}:Gz {b with tm:=b.tm++[m]} n o a:=by have r:=g.rm;have c:=r.le (m':=n) Ac;exact⟨g.ok.of_eq rfl rfl rfl rfl,⟨c.n,c.at_,c.data,c.Au,c.A3,by have:=r.tm;simp only[An,AQ];omega,c.Es,c.vO⟩,g.Au,g.A3⟩
def Gz.Dn(g:Gz b n o a):Gz b.Dn n o a:=by
 unfold BS.Dn;split;.exact g
 .exact(g.sub (lo:=D6 Dm (AH [AW]) (D6 EG Dm b.Au)) (lc:=FF b.A3) (lt:=b.tm.dropLast) (Dh.trans Dh) (Ch _ _) AB).JR
def Gz.Dj(g:Gz b (n+4) o a){s:Int}(hl:GQ l)(hn:nm.length<=1000):Gz (b.Dj nm l s) n (o+1) a:=(g.Mw (sp:=1) hl hn).eq rfl rfl rfl rfl rfl
def Gz.Cr(g:Gz b (n+4) o a)(ht:t.Sm):Gz (b.Cr t) n (o+1) a:=g.Mw ht.As ht.name
def Kf(h:nm.length<=1000):(Gj nm).Sm:=⟨h,⟨show([]:List Bj).length<=1000 by decide,λa ha=>by cases ha⟩,(Az:([]:Ah).length<=1000),show(-2147483648:Int)<=0/\(0:Int)<=2147483647 by decide⟩
def Gz.GR(g:Gz b (n+4) o a)(ht:t.Sm):Gz (b.GR t) n (o+1) a:=(g.Cr ht).FB
def Gz.I3(g:Gz b (n+1000) o a)(ht:t.Sm):Gz (b.I3 t) n o a:=by
 unfold BS.I3;split;.exact g.le Ac (Ad _) (Ad _)
 .exact g.FJ ht.As
def Gz.C2(g:Gz b (n+1004) o a)(ht:t.Sm):Gz (b.C2 t).1 n (o+1) (a+1):=by have g0:Gz b n (o+1) (a+1):=g.le Ac Ac Ac;have d:Gz b (n+4) o a:=g.le Ac Ac Ac;unfold BS.C2;refine .ķ g0 (.ite ((g.le (n':=n+5) Ac (Ad _) (Ad _)).Jk.le (Ad _) Ac Ac) (.ite (((g.le (n':=n+5) Ac (Ad _) (Ad _)).DD ht.data).le (Ad _) Ac Ac) (.ite (((g.le (n':=n+1000) Ac (Ad _) (Ad _)).I3 ht).le (Ad _) Ac Ac) (.ite ((d.GR ht).le (Ad _) Ac Ac) (.ite ((d.Dj ht.As ht.name).le (Ad _) Ac Ac) (.ite ((d.Dj ht.As ht.name).le (Ad _) Ac Ac) (.ite ((d.Dj ht.As ht.name).le (Ad _) Ac Ac) (.ite (((d.Cr ht).le (Ad _) Ac Ac).eq rfl rfl rfl rfl rfl) (.ite ((d.FB.le Ac Ac Ac).eq rfl rfl rfl rfl rfl) (.ite ?_ (.ite (d.Dn.le Ac Ac Ac) ((d.FB.le Ac Ac Ac).eq (c:={b.FB with mode:=6}) rfl rfl rfl rfl rfl))))))))))));exact((((g.le (n':=n+2+4) Ac (Ad _) (Ad _)).Cr ht).mark.tm (m:=18)).eq rfl rfl rfl rfl rfl)
def Gz.FG(g:Gz b (n+1004) o a)(ht:t.Sm):Gz (b.FG t).1 n (o+1) (a+1):=by have g0:Gz b n (o+1) (a+1):=g.le Ac Ac Ac;unfold BS.FG;exact .ķ g0 (.ite (((g.le (n':=n+1000) Ac (Ad _) (Ad _)).I3 ht).le (Ad _) Ac Ac) (.ite (g0.FB.eq rfl rfl rfl rfl rfl) (.aLv (g.C2 ht) (g0.FB.eq (c:={b.FB with mode:=4}) rfl rfl rfl rfl rfl))))
def Gz.push(g:Gz b (n+1) o a)(c:Ny b):Gz {b with Au:=b.Au++[BS.DF b.head]} n (o+1) a:=by have RO:=g.ok.aA5 (i:=BS.DF b.head) (k:=b.Au.length) ⟨c.has,c.kind,c.Bd,c.name⟩ c.no;rw[Bl,FA] at RO;have d:=g.rm.aC8 (i:=BS.DF b.head) (l':=b.Au++[BS.DF b.head]) AB (λj hj=>by simpa using hj) (Az:(aXR:Ah).length<=1000);exact⟨RO,d,by have:=g.Au;simp only[An,AQ];omega,g.A3⟩
def Gz.Fe(g:Gz b (n+1005) o a)(c:Ny b)(ht:t.Sm):Gz (b.Fe t).1 n (o+2) (a+1):=by have g2:=((Gz.push (n:=n+1004) g c).C2 ht).KH (lo:=Cg b.head (BS.C2 {b with Au:=b.Au++[BS.DF b.head]} t).1.Au) EL;unfold BS.Fe;exact g2
def Gz.Ex(g:Gz b (n+1005) o a)(e:Ny b)(ht:t.Sm):Gz (b.Ex t).1 n (o+2) (a+1):=by have g0:Gz b n (o+2) (a+1):=g.le Ac Ac Ac;have d:Gz b (n+4) o a:=g.le Ac Ac Ac;unfold BS.Ex;exact .ķ g0 (.ite ((g.le (n':=n+5) Ac (Ad _) (Ad _)).Jk.le (Ad _) Ac Ac) (.ite (((g.le (n':=n+5) Ac (Ad _) (Ad _)).DD ht.data).le (Ad _) Ac Ac) (.ite (((g.le (n':=n+1000) Ac (Ad _) (Ad _)).I3 ht).le (Ad _) Ac Ac) (.ite (((d.Cr ht).le (Ad _) Ac Ac).eq rfl rfl rfl rfl rfl) (.ite (((d.Cr ht).le (Ad _) Ac Ac).eq rfl rfl rfl rfl rfl) (.ite (g.Fe e ht) (.ite (((g.le (n':=n+1004) Ac (Ad _) (Ad _)).C2 ht).le (Ad _) Ac Ac) (((d.Cr (Kf (nm:=aXS) Az)).le (Ad _) Ac Ac).eq (c:={b.Cr (Gj aXS) with mode:=7}) rfl rfl rfl rfl rfl))))))))
def Gz.LL(g:Gz b (n+5) o a):Gz (b.LL t).1 n o a:=by have g0:Gz b n o a:=g.le Ac Ac Ac;unfold BS.LL;exact .ite g0 (.ite g.Jk (.ite (g0.FB.eq (c:={b.FB with mode:=b.IV}) rfl rfl rfl rfl rfl) (.ite (g0.FB.eq (c:={b.FB with mode:=b.IV}) rfl rfl rfl rfl rfl) g0)))
def Gz.HL(g:Gz b (n+4*a+5) o a):Gz (b.HL t) n (o+a) a:=by
 have g1:Gz (b.AM.Jk t.r) n (o+a) a:=(g.le (n':=n+5+4*a) Ac (Ad _) (Ad _)).AM.Jk;unfold BS.HL;split;.exact g.le Ac Ac (Ad _)
 .split;.exact g1
  .exact g1.eq rfl rfl rfl rfl rfl
def Gz.MI(g:Gz b n o a):Gz b.MI.1 n o a:=by
 unfold BS.MI;split;.exact(g.sub (lo:=D6 Dm (AH [AW]) b.Au) (lc:=FF b.A3) (lt:=b.tm.dropLast) Dh (Ch _ _) AB).JR
 .exact g.eq rfl rfl rfl rfl rfl
def Gz.E9(g:Gz b (n+1) o a){m:Int}:Gz (b.E9 m).1 n o a:=by have g1:=(g.sub (lo:=b.Au) (lc:=b.A3) (lt:=b.tm.dropLast) (BR _) (BR _) AB).tm (m:=m);exact g1.eq rfl rfl rfl rfl rfl
def Gz.D0(g:Gz b (n+4*a+1005) o a)(ht:t.Sm):Gz (b.D0 t).1 n (o+a+1) (a+1):=by have g0:Gz b n (o+a+1) (a+1):=g.le Ac Ac Ac;have gf:∀m,Gz (b.E9 m).1 n (o+a+1) (a+1):=λm=>(g.le (n':=n+1) Ac (Ad _) (Ad _)).E9.le (Ad _) Ac Ac;unfold BS.D0;exact .ite g0 (.ite ((g.le (n':=n+4*a+5) Ac (Ad _) (Ad _)).HL.le (Ad _) Ac Ac) (.ite (((g.le (n':=n+5) Ac (Ad _) (Ad _)).DD ht.data).le (Ad _) Ac Ac) (.ite g0 (.aHs (((g.le (n':=n+1004) Ac (Ad _) (Ad _)).C2 ht).le (Ad _) Ac Ac) (.ite (gf 9) (.ite (gf 12) (.ite (gf 13) (.ite (gf 14) (.ite (gf 7) (.ite g0 g0.MI))))))))))
def Gz.block(g:Gz b (n+4) o a)(ht:t.Sm):Gz (b.block t) n (o+1) a:=g.B7.Cr ht
def Gz.Iq(g:Gz b (n+4) o a)(ht:t.Sm):Gz (b.Iq t) n (o+1) a:=by
 unfold BS.Iq;refine Gz.Cr ?_ ht;split;.exact g.B7.FB
 .exact g.B7
def Gz.J4(g:Gz b (n+4) o a)(ht:t.Sm):Gz (b.J4 t) n (o+1) a:=(g.block ht).eq rfl rfl rfl rfl rfl
def Gz.MP(g:Gz b (n+4) o a)(ht:t.Sm):Gz (b.MP t) n (o+1) a:=by
 unfold BS.MP;split;.exact g.le Ac Ac (Ad _)
 .simp only;split;.exact g.B7.Cr ht
  .exact(g.B7.Cr ht).eq rfl rfl rfl rfl rfl
def Gz.FW(g:Gz b n o a){ws:List Ah}:Gz (b.FW ws) n o a:=by
 unfold BS.FW;split
 .split;.exact g.Dw
  .exact g
 .exact g
def Gz.SX(g:Gz b (n+4) o a)(ht:t.Sm):Gz (b.SX t) n (o+1) a:=(g.eq (c:={b with fs:=false}) rfl rfl rfl rfl rfl).FW.block ht
def Gz.KX(g:Gz b (n+4*a+4) o a)(ht:t.Sm):Gz (b.KX t) n (o+a+1) a:=by
 have g1:Gz (if b.has [aXQ] then b.Dw aXQ [] else b) (n+4+4*a) o a:=by
  split;.exact g.Dw.le Ac (Ad _) (Ad _)
  .exact g.le Ac (Ad _) (Ad _)
 exact(g1.AM.Cr ht).eq rfl rfl rfl rfl rfl
def Gz.wR(g:Gz b (n+4*a+5) o a)(ht:t.Sm):Gz (b.wR t) n (o+a+1) (a+1):=((g.le (n':=n+5+4*a) Ac (Ad _) (Ad _)).AM.Eu ht.As ht.name)
def Mm{l:List Cn}{x:Int}:(BS.Ke l x).Sublist l:=by
 unfold BS.Ke;split;.exact BR _
 .exact CO
def Gz.Nx(g:Gz b (n+8*(4*(o+8)+10)) o a):Gz b.Nx n (o+8) (a+8):=by
 unfold BS.Nx;simp only;split;.exact g.le Ac Ac Ac
 .exact g.C7.sub EL Mm (Ad _)
def Gz.WK(g:Gz b (n+8*(4*(o+8)+10)+4*(a+8)+5) o a)(ht:t.Sm):Gz (b.WK t) n (o+a+17) (a+9):=
 (Gz.wR ((g.le (n':=n+4*(a+8)+5+8*(4*(o+8)+10)) Ac (Ad _) (Ad _)).Nx) ht).le (Ad _) Ac (Ad _)
def Gz.Ui(g:Gz b (n+8*(4*(o+a+8)+10)+8*a+100) o a)(ht:t.Sm):Gz (b.Ui t) n (o+2*a+17) (a+9):=by
 have g1:Gz b.AM (n+5+4*(a+8)+8*(4*(o+a+8)+10)) (o+a) a:=(g.le Ac (Ad _) (Ad _)).AM;have g2:Gz (if b.AM.has [aYc] then(b.AM.C7 aYc).AM else b.AM) (n+5) (o+a+8+(a+8)) (a+8):=by
  split;.exact g1.C7.AM
  .exact g1.le Ac Ac Ac
 exact(g2.Eu ht.As ht.name).le (Ad _) Ac (Ad _)
def Gz.BV(g:Gz b (n+4*a+5) o a)(ht:t.Sm):Gz (b.BV t) n (o+a+1) (a+1):=
 (((g.le (n':=n+1+4+4*a) Ac (Ad _) (Ad _)).AM.Cr ht).mark).eq rfl rfl rfl rfl rfl
def Gz.SY(g:Gz b (n+4) o a)(ht:t.Sm):Gz (b.SY t) n (o+1) a:=by
 have g1:Gz (if(b.a.nd b.BM).DX then b else b.B7) (n+4) o a:=by
  split;.exact g
  .exact g.B7
 exact(g1.Cr ht).eq rfl rfl rfl rfl rfl
def Dr.Sm.rn(ht:t.Sm)(h:nm.length<=1000):({t with name:=nm}:Dr).Sm:=⟨h,ht.As,ht.data,ht.r⟩
def Gz.empty(g:Gz b (n+4*a+4) o a)(ht:t.Sm):Gz (b.empty t) n (o+a+1) a:=by
 have d:Gz b (n+4) o a:=g.le Ac (Ad _) (Ad _);have c:Gz b.AM (n+4) (o+a) a:=(g.le Ac (Ad _) (Ad _)).AM;unfold BS.empty;split;.exact((d.B7.GR ht).le (Ad _) Ac (Ad _)).eq rfl rfl rfl rfl rfl
 .split;.exact((d.GR ht).le (Ad _) Ac (Ad _)).eq rfl rfl rfl rfl rfl
  .split;.exact(c.GR ht).eq rfl rfl rfl rfl rfl
   .exact(c.GR (ht.rn (by split;exact Az;exact ht.name))).eq rfl rfl rfl rfl rfl
def Gz.Zu(g:Gz b (n+4*a+4) o a)(ht:t.Sm):Gz (b.Zu t) n (o+a+1) a:=by
 have d:Gz b (n+4) o a:=g.le Ac (Ad _) (Ad _);have e:Gz b.B7.AM (n+4) (o+a) a:=(g.B7.le Ac (Ad _) (Ad _)).AM;unfold BS.Zu;split;.exact((d.block ht).le (Ad _) Ac (Ad _)).eq rfl rfl rfl rfl rfl
 .split;.exact((d.Dj (s:=2) ht.As ht.name).le (Ad _) Ac (Ad _)).eq rfl rfl rfl rfl rfl
  .split;.exact(e.eq (c:={b.B7.AM with fs:=false}) rfl rfl rfl rfl rfl).Dj ht.As ht.name
   .split;.exact((d.eq (c:={b with fs:=false}) rfl rfl rfl rfl rfl).Dj ht.As ht.name).le (Ad _) Ac (Ad _)
    .exact(d.Dj ht.As ht.name).le (Ad _) Ac (Ad _)
def Gz.Vl(g:Gz b (n+4*a+4) o a)(ht:t.Sm):Gz (b.Vl t) n (o+a+1) a:=
 ((g.le (n':=n+4+4*a) Ac (Ad _) (Ad _)).AM.Cr ht).eq rfl rfl rfl rfl rfl
def Gz.KY(g:Gz b (n+4*a+4) o a)(ht:t.Sm):Gz (b.KY t) n (o+a+1) a:=by
 have g1:Gz (if AH [aX0] (DP b.Au) then b.FB else b) (n+4+4*a) o a:=by
  split;.exact g.FB.le Ac (Ad _) (Ad _)
  .exact g.le Ac (Ad _) (Ad _)
 exact g1.AM.Cr ht
def Gz.SZ(g:Gz b (n+4) o a)(ht:t.Sm):Gz (b.SZ t) n (o+1) a:=by
 unfold BS.SZ;refine Gz.Cr ?_ ht;split;.exact g.KH Dh
 .exact g
def Gz.HR(g:Gz b (n+4*a+4) o a)(ht:t.Sm):Gz (b.HR t) n (o+a+1) a:=by
 have g1:=(g.le (n':=n+4+4*a) Ac (Ad _) (Ad _)).AM.Mw (sp:=if t.name=aYG then 3 else 2) ht.As ht.name;unfold BS.HR;simp only;split;.exact g1.FB
 .exact g1
def V8(h:b.MH=true):El b.Au 1∈b.Au:=by unfold BS.MH at h;simp only[Bg,CF] at h;exact LF Az (by have:=h.1;omega)
def qT{x:Int}:Oq b.a (b.a.cut x):=by
 unfold Ar.cut;simp only;split;.exact .refl
 .exact Oq.trans Vb Vc
def Gz.JL(g:Gz b (n+4) o a)(ht:t.Sm):Gz (b.JL t) n (o+1) a:=by
 unfold BS.JL;split;.exact g.le Ac Ac (Ad _)
 .rename_i h;have h2:b.MH=true:=by
   cases hs:b.MH;.exact absurd (.inl hs) h
   .rfl
  have hi:=g.ok.op _ (V8 h2);have g1:Gz {b with a:=b.a.cut (El b.Au 1).node} (n+4) o a:=⟨g.ok.I5 (iM g.ok.ok hi.1 (by rw[hi.2.1];decide)) vJ,g.rm.I5 qT,g.Au,g.A3⟩;exact((g1.KH (lo:=b.Au.take 1) (Ch _ _)).Cr ht).eq rfl rfl rfl rfl rfl
def Gz.Jq(g:Gz b (n+1000) o a)(ht:t.Sm):Gz (b.Jq t) n o a:=by
 have g0:Gz b n o a:=g.le Ac (Ad _) (Ad _);unfold BS.Jq;split;.exact g0
 .split;.exact g.FJ ht.As
  .split;.exact(g.eq (c:={b with fs:=false}) rfl rfl rfl rfl rfl).FJ ht.As
   .exact g0
def Gz.opens(g:Gz b (n+8*(4*(o+a+8)+10)+8*a+2000) o a)(ht:t.Sm):Gz (b.opens t).1 n (o+2*a+17) (a+9):=by
 have ge:∀{m},m<=n+8*(4*(o+a+8)+10)+8*a+2000->Gz b m o a:=λh=>g.le h (Ad _) (Ad _);unfold BS.opens;exact .ite (((ge Ac).C2 ht).le (Ad _) Ac Ac)
  (.ite (((ge Ac).block ht).le (Ad _) Ac Ac)
  (.ite (((ge Ac).Iq ht).le (Ad _) Ac Ac)
  (.ite (((ge Ac).J4 ht).le (Ad _) Ac Ac)
  (.ite (((ge Ac).wR ht).le (Ad _) Ac Ac)
  (.ite (((ge Ac).BV ht).le (Ad _) Ac Ac)
  (.ite (((ge Ac).empty ht).le (Ad _) Ac Ac)
  (.ite (ge (m:=n) Ac |>.le (Ad _) Ac Ac)
  (.ite (((ge Ac).Zu ht).le (Ad _) Ac Ac)
  (.ite (((ge Ac).SZ ht).le (Ad _) Ac Ac)
  (.ite (((ge Ac).HR ht).le (Ad _) Ac Ac)
  (.ite (((ge Ac).SX ht).le (Ad _) Ac Ac)
  (.ite (((ge Ac).KY ht).le (Ad _) Ac Ac)
  (.ite (((ge Ac).Jq ht).le (Ad _) Ac Ac)
  (.ite (((ge Ac).JL ht).le (Ad _) Ac Ac)
  (.ite (((ge Ac).MP ht).le (Ad _) Ac Ac)
  (.ite (((ge Ac).KX ht).le (Ad _) Ac Ac)
  (.ite (((ge Ac).WK ht).le (Ad _) Ac Ac)
  (.ite (((ge Ac).Ui ht).le (Ad _) Ac Ac)
  (.ite (((ge Ac).SY ht).le (Ad _) Ac Ac)
  (.ite (((ge Ac).Vl ht).le (Ad _) Ac Ac)
  (((ge (m:=n+4+4*a) Ac).AM.Cr ht).le (Ad _) Ac Ac)))))))))))))))))))))
def Gz.Fa(g:Gz b n o a):Gz (b.Fa t) n o a:=by
 unfold BS.Fa;split;.exact g.Dw
 .exact g
def Gz.HS(g:Gz b (n+4) o a):Gz (b.HS t) n (o+1) a:=by
 have g0:Gz b n (o+1) a:=g.le Ac Ac (Ad _);unfold BS.HS;dsimp only;generalize b.N7 _ _=q;cases q
 .by_cases h:t.name=[112];.simp only[B5,DK,Ae h];exact(g.Cr (Kf (nm:=[112]) (Az:([112]:Ah).length<=1000))).Dw
  .simp only[B5,DK,Aa h];exact g0
 .exact g0.Dw
def Gz.MJ(g:Gz b (n+8*(4*(o+a+8)+10)+8*a+2000) o a)(ht:t.Sm):Gz (b.MJ t).1 n (o+2*a+17) (a+9):=by
 have ge:∀{m},m<=n+8*(4*(o+a+8)+10)+8*a+2000->Gz b m o a:=λh=>g.le h (Ad _) (Ad _);have g0:Gz b n (o+2*a+17) (a+9):=g.le Ac Ac Ac;unfold BS.MJ;refine .ite (((ge Ac).C2 ht).le (Ad _) Ac Ac)
  (.ite ?_ (.ite g0.Fa (.ite (((ge (m:=n+8*(4*(o+8)+10)) Ac).C7).le (Ad _) Ac Ac)
  (.ite ?_ (.ite ?_ (.ite (((ge (m:=n+4) Ac).HS).le (Ad _) Ac Ac) (.ite ?_
  (.ite (((ge (m:=n+4*a+4) Ac).empty (Kf (nm:=[98,114]) Az)).le (Ad _) Ac Ac) g0.C1))))))))
 .unfold BS.PZ;split;.exact g0.eq rfl rfl rfl rfl rfl
  .exact g0
 .unfold BS.FH;split;.exact g0.KH (Dh.trans Dh)
  .exact g0
 .unfold BS.GA;split;.exact(g0.sub (lo:=(b.Dw t.name []).Au) (lc:=FF b.A3) (lt:=b.tm) (Dh.trans Dh) (Ch _ _) (Ad _)).eq rfl rfl rfl rfl rfl
  .exact g0
 .unfold BS.JM;split;.exact g0.Fa
  .split;.exact(g0.KH (lo:=Cg b.Ha (D6 (CL []) Dm b.Au)) (EL.trans Dh)).eq rfl rfl rfl rfl rfl
   .exact g0.eq rfl rfl rfl rfl rfl
def Gz.H7(g:Gz b (n+8*(4*(o+a+8)+10)+8*a+2000) o a)(ht:t.Sm):Gz (b.H7 t).1 n (o+2*a+17) (a+9):=by
 have ge:∀{m},m<=n+8*(4*(o+a+8)+10)+8*a+2000->Gz b m o a:=λh=>g.le h (Ad _) (Ad _);have g0:Gz b n (o+2*a+17) (a+9):=g.le Ac Ac Ac;unfold BS.H7;exact .ite g0 (.ite (((ge (m:=n+4*a+5) Ac).HL).le (Ad _) Ac Ac)
  (.ite (((ge (m:=n+5) Ac).DD ht.data).le (Ad _) Ac Ac)
  (.ite (.ite (((ge (m:=n+4*a+1005) Ac).D0 ht).le (Ad _) Ac Ac) (g0.eq rfl rfl rfl rfl rfl))
  (.ite (g.opens ht) (.ite (g.MJ ht) g0)))))
def Gz.NP(g:Gz b n o a):Gz b.NP n o a:=by have hd:=g.ok.BM;have hk:=g.ok.ok.Tg _ hd.1;refine⟨g.ok.I5 (iN g.ok.ok hd.1 ⟨hk.k,hk.Bi,hk.elem,hk.nm,hk.dt,hk.data,λh=>absurd hd.2 h,hk.sp,hk.Ô,hk.Dx,hk.QW,hk.OW,hk.root,hk.af⟩ rfl rfl rfl ⟨(g.ok.ok.BM _ hd.1).1,(g.ok.ok.BM _ hd.1).2,g.ok.ok.YT _ hd.1⟩ rfl rfl λc=>c) (PL rfl rfl rfl),g.rm.I5 (T1 rfl rfl),g.Au,g.A3⟩
def Gz.Nw(g:Gz b (n+1) o a):Gz (b.Nw t) n o a:=by
 have hd:=g.ok.BM;have hx:sJ {kind:=3,BM:=b.BM,name:=t.name,Lg:=t.Lg,sys:=t.sys}:=by constructor<;>simp[Dx,GP,dQ]
 have RO:=PI g.ok.ok hx (.inr ⟨AB,hd⟩) rfl rfl rfl rfl (λh=>absurd h.1 (Az:¬(3:Int)=4));refine⟨g.ok.I5 (N5 RO) (PK.trans Hs),?_,g.Au,g.A3⟩;exact(g.rm.GZ (Mg (y:={kind:=3,BM:=b.BM,name:=t.name,Lg:=t.Lg,sys:=t.sys}) AB AB)).I5 LH
def Gz.Gq{qk:Dr->Bool}(g:Gz b (n+5) o a)(ht:t.Sm):Gz (b.Gq qk t).1 n o a:=by
 have g0:Gz b n o a:=g.le Ac (Ad _) (Ad _);unfold BS.Gq;refine .aHs g0 (.ite (g.DD ht.data) (.ite (g0.NP.eq (c:={b.NP with mode:=2}) rfl rfl rfl rfl rfl) ?_));have g1:Gz (b.Nw t) n o a:=(g.le (n':=n+1) Ac (Ad _) (Ad _)).Nw;simp only;split;.exact g1.NP.eq rfl rfl rfl rfl rfl
 .exact g1.eq rfl rfl rfl rfl rfl
def Gz.DY(g:Gz b (n+5) o a)(ht:t.Sm):Gz (b.DY t).1 n (o+1) a:=by have d:Gz b (n+4) o a:=g.le Ac (Ad _) (Ad _);unfold BS.DY;exact .ķ (d.le Ac Ac (Ad _)) (.ite ((g.DD ht.data).le (Ad _) Ac (Ad _)) (.ite ((d.Cr ht).eq rfl rfl rfl rfl rfl) ((d.Cr (Kf (nm:=aXM) Az)).eq (c:={b.Cr (Gj aXM) with mode:=3}) rfl rfl rfl rfl rfl)))
def Gz.DZ(g:Gz b (n+1000) o a)(ht:t.Sm):Gz (b.DZ t).1 n (o+1) a:=by have d:Gz b (n+4) o a:=g.le Ac (Ad _) (Ad _);have e:Gz b (n+5) o a:=g.le Ac (Ad _) (Ad _);unfold BS.DZ;exact .ķ (d.le Ac Ac (Ad _)) (.ite ((e.DD ht.data).le (Ad _) Ac (Ad _)) (.ite ((g.I3 ht).le (Ad _) Ac (Ad _)) (.ite ((d.Cr ht).eq rfl rfl rfl rfl rfl) ((d.Cr (Kf (nm:=aXR) Az)).eq (c:={b.Cr (Gj aXR) with head:=b.Li 1,mode:=4}) rfl rfl rfl rfl rfl))))
def Gz.apply{qk:Dr->Bool}(g:Gz b (n+8*(4*(o+a+8)+10)+8*a+2000) o a)(c:b.mode=6->Ny b)(ht:t.Sm):Gz (b.apply qk t).1 n (o+2*a+17) (a+9):=by
 have ge:∀{m},m<=n+8*(4*(o+a+8)+10)+8*a+2000->Gz b m o a:=λh=>g.le h (Ad _) (Ad _);have g0:Gz b n (o+2*a+17) (a+9):=g.le Ac Ac Ac;unfold BS.apply;refine .ite g0 (.ite (((ge (m:=n+5) Ac).Gq ht).le (Ad _) Ac Ac)
  (.ite (((ge (m:=n+5) Ac).DY ht).le (Ad _) Ac Ac)
  (.ite (((ge (m:=n+1000) Ac).DZ ht).le (Ad _) Ac Ac)
  (.ite (((ge (m:=n+1004) Ac).C2 ht).le (Ad _) Ac Ac)
  (.ite (((ge (m:=n+1004) Ac).FG ht).le (Ad _) Ac Ac) ?_)))))
 split;.rename_i d;exact(((ge (m:=n+1005) Ac).Ex (c d) ht).le (Ad _) Ac Ac)
 .exact .ite (g.H7 ht)
   (.ite (((ge (m:=n+5) Ac).LL).le (Ad _) Ac Ac)
   (.ite (((ge (m:=n+4*a+1005) Ac).D0 ht).le (Ad _) Ac Ac) g0))
end
structure aB(m:Nat)(l l':List Item):Prop where
 sp:l'.filter AS=l.filter AS
 J4:l'.take m=l.take m
section
variable{m k j:Nat}{l l' l'':List Item}{i n:Item}{b:BS}{nm:Ah}{at_:List Bj}
def aB.refl:aB m l l:=⟨rfl,rfl⟩
def aB.trans(h:aB m l l')(g:aB m l' l''):aB m l l'':=⟨g.sp.trans h.sp,g.J4.trans h.J4⟩
def aB.le(h:aB m l l')(hk:k<=m):aB k l l':=⟨h.sp,by have:=B6 (List.take k) h.J4;rwa [CK,CK,BP hk] at this⟩
def aB.len(h:aB m l l')(hm:m<=l.length):m<=l'.length:=by have:=B6 List.length h.J4;rw[Ax,Ax] at this;omega
def eM(hm:m<=l.length)(hi:AS i=false):aB m l (l++[i]):=
 ⟨by rw[Be,CX (by simp[hi])];simp,Bk hm⟩
def Xo(hm:m<=k)(hk:∀h:k<l.length,AS l[k]=false):aB m l (BA l k):=by
 unfold BA;rcases Bm k l.length with h|h
 .refine⟨?_,?_⟩
  .conv=>rhs;rw[<-Br k l,AA h]
   rw[Be,Be,CX (by simp[hk h])]
  .rw[Bk (by rw[Ax];omega),CK,BP hm]
 .rw[Bf h,AX Ac,A8];exact .refl
def aHt(hm:m<=k)(hk:∀h:k<l.length,AS l[k]=false)(hn:AS n=false):aB m l (l.set k n):=by
 rw[Cc];split
 .rename_i h;refine⟨?_,?_⟩
  .conv=>rhs;rw[<-Br k l,AA h]
   rw[Be,Be,CX (a:=n) (by simp[hn]),CX (by simp[hk h])]
  .rw[Bk (by rw[Ax];omega),CK,BP hm]
 .exact .refl
def l_(hm:m<=j)(hd:∀i∈l.drop j,AS i=false):aB m l (l.take j):=by
 refine⟨?_,by rw[CK,BP hm]⟩;conv=>rhs;rw[<-Br j l]
 have e:(l.drop j).filter AS=[]:=List.filter_eq_nil_iff.2 λi hi=>by simp[hd i hi]
 rw[Be,e,A8]
def aHu(hm:m<=k)(hk:k<=l.length)(hn:AS n=false):aB m l (l.take k++n::l.drop k):=by
 refine⟨?_,by rw[Bk (by rw[Ax];omega),CK,BP hm]⟩;conv=>rhs;rw[<-Br k l]
 rw[Be,Be,CX (by simp[hn])]
def Ht(h:i.Bd=1)(hn:i.name∈B2):AS i=false:=by have key:∀w∈B2,D5 1 w=false:=Ed;unfold AS;rw[h];exact key _ hn
def ĸ:Ķ=B2:=rfl
def Vm(A:Ar)(l:List Cn):Prop:=∀e∈l,e.node=0\/(e.name∈B2/\(A.nd e.node).name=e.name/\(A.nd e.node).Bd=1)
def Vm.sub{A:Ar}{l l':List Cn}(h:Vm A l)(hs:l'.Sublist l):Vm A l':=λe he=>h e (hs.subset he)
def Vm.le{A A':Ar}{l:List Cn}(h:Vm A l)(hl:Le A A')(ha:∀e∈l,e.node=0\/(A.has e.node/\(A.nd e.node).kind=4)):Vm A' l:=λe he=>by
 rcases h e he with h1|⟨h1,h2,h3⟩
 .exact .inl h1
 .rcases ha e he with a|a
  .exact .inl a
  .exact .inr ⟨h1,by rw[hl.name _ a.1];exact h2,by rw[hl.Bd _ a.1];exact h3⟩
def nm1:BS.Mf 1 nm=nm:=Aa Az
def O2:(b.HA nm at_ 1).name=nm:=by unfold BS.HA;rw[Ae KG];exact nm1
def P0:(b.HA nm at_ 1).Bd=1:=by unfold BS.HA;rw[Ae KG]
def vf{x:Int}{l:List Cn}(h:¬FU x l<0):x≠0/\∃k,k<l.length/\(FU x l).toNat=k/\(l.getD k Cn.zero).node=x/\l.getD k Cn.zero∈l:=by
 unfold FU at h⊢;split at h;.omega
 .rename_i h0;rw[Aa h0];rcases BZ (q:=VZ x) (l:=l) with⟨h1,_⟩|⟨k,hk,h1,h2,_⟩
  .omega
  .refine⟨h0,k,hk,by rw[h1];omega,?_,?_⟩;.rw[AL,Av hk];exact CC h2
   .rw[AL,Av hk];exact AG hk
def S0{l:List Cn}(h:¬DT nm l<0):(l.getD (DT nm l).toNat Cn.zero)∈l/\(l.getD (DT nm l).toNat Cn.zero).node≠0/\(l.getD (DT nm l).toNat Cn.zero).name=nm:=by
 have key:∀r:List Cn,0<=PJ nm r->∃e a c,r=a++e::c/\PJ nm r=(c.length:Int)/\e.node≠0/\e.name=nm:=by
  intro r;induction r with
  |nil=>intro h;simp[PJ] at h
  |cons x t ih=>
   intro h;rw[PJ] at h⊢;split at h;.omega
   .rename_i h0;rw[Aa h0];split at h;.rename_i h1;rw[Ae h1];exact⟨x,[],t,rfl,rfl,h0,h1⟩
    .rename_i h1;rw[Aa h1];obtain⟨e,a,c,h2,h3⟩:=ih h;exact⟨e,x::a,c,by rw[h2];rfl,h3⟩
 obtain⟨e,a,c,h1,h2,h3,d⟩:=key l.reverse (by unfold DT at h;omega);have hl:l=c.reverse++e::a.reverse:=by have:=B6 List.reverse h1;rw[DG] at this;rw[this];simp
 have hg:l.getD (DT nm l).toNat Cn.zero=e:=by unfold DT;rw[h2,hl,AL,Bu AB];simp
 rw[hg];exact⟨by rw[hl];simp,h3,d⟩
def BS.rs(b:BS):List Int×Int×Int×Int×Int×Bool×Bool×Int:=(b.tm,b.Ha,b.head,b.mode,b.IV,b.D4,b.Lh,b.BM)
structure eQ(m:Nat)(b c:BS):Prop where
 fm:aB m b.Au c.Au
 ok:EC c
 ac:Vm c.a c.A3
 le:Le b.a c.a
 rest:c.rs=b.rs
def eQ.refl(o:EC b)(f:Vm b.a b.A3):eQ m b b:=⟨.refl,o,f,.refl,rfl⟩
def eQ.trans{b c d:BS}(h:eQ m b c)(g:eQ m c d):eQ m b d:=⟨h.fm.trans g.fm,g.ok,g.ac,h.le.trans g.le,g.rest.trans h.rest⟩
def eQ.lem{b c:BS}(h:eQ m b c)(hk:k<=m):eQ k b c:=⟨h.fm.le hk,h.ok,h.ac,h.le,h.rest⟩
def Vm.aQo{A:Ar}{l:List Cn}(h:Vm A l){e:Cn}{k:Nat}(he:e.name∈B2/\(A.nd e.node).name=e.name/\(A.nd e.node).Bd=1):Vm A (l.set k e):=λx hx=>by
 rcases DC hx with h1|rfl
 .exact h x h1
 .exact .inr he
def Xp{p:Int}:(b.Gf nm at_ 1 p).rs=b.rs:=by unfold BS.Gf;rw[Ae KG];rfl
def ma{p:Int}:(b.Gf nm at_ 1 p).Au=b.Au:=by unfold BS.Gf;rw[Ae KG]
def mb{p:Int}:(b.Gf nm at_ 1 p).A3=b.A3:=by unfold BS.Gf;rw[Ae KG]
def Ĺ(o:EC b)(f:Vm b.a b.A3){blk anc:Int}{far:Nat}{l:Int}{q:Nat}(hl:b.a.has l)(hm:m<=k)(hk:∀h:k<b.Au.length,AS b.Au[k]=false):eQ m b (BS.Gu blk anc far k b l q).1:=by
 obtain⟨ok,_,le⟩:=OZ (blk:=blk) (anc:=anc) (far:=far) (i:=k) (l:=l) (m:=q) o hl;unfold BS.Gu at ok le⊢;simp only at ok le⊢;split at ok;.rename_i h1;rw[Ae h1] at le⊢;exact⟨Xo hm hk,ok,f,le,rfl⟩
 .rename_i h1;rw[Aa h1] at le⊢;split at ok;.rename_i h2;rw[Ae h2] at le⊢;exact⟨Xo hm hk,ok,f.sub CO,le,rfl⟩
  .rename_i h2;rw[Aa h2] at le⊢;obtain⟨s,kk,d,r,u,g⟩:=vf h1;rw[r] at ok le⊢;generalize b.A3.getD kk Cn.zero=en at*;have RI:en.name∈B2:=by
    rcases f en g with h3|h3
    .omega
    .exact h3.1
   obtain⟨t,fr,l1⟩:=Qf (nm:=en.name) (at_:=en.As) (p:=anc) o KG;have c:=Xp (b:=b) (nm:=en.name) (at_:=en.As) (p:=anc);have ea:=mb (b:=b) (nm:=en.name) (at_:=en.As) (p:=anc);have e:=ma (b:=b) (nm:=en.name) (at_:=en.As) (p:=anc);have hn:=O2 (b:=b) (nm:=en.name) (at_:=en.As);have hs:=P0 (b:=b) (nm:=en.name) (at_:=en.As);generalize b.HA en.name en.As 1=n at*;generalize b.Gf en.name en.As 1 anc=b1 at*;have f1:Vm b1.a b1.A3:=by rw[ea];exact f.le l1 o.ac
   have f2:Vm (b1.a.F9 n.node l 0) b1.A3:=f1.le Hs (by rw[ea];exact W9 l1 o.ac);refine⟨?_,ok,f2.aQo ⟨RI,?_,?_⟩,le,c⟩;.simp only;rw[e];exact aHt hm hk (Ht hs (by rw[hn];exact RI))
   .simp only;rw[Hs.name _ fr.has,fr.name,hn]
   .simp only;rw[Hs.Bd _ fr.has,fr.Bd,hs]
def lC{blk anc:Int}{far k:Nat}:∀{c:Nat} {s:BS×Int×Nat},EC s.1->Vm s.1.a s.1.A3->s.1.a.has s.2.1->(∀j (h:j<s.1.Au.length),k<j->j<=k+c->AS s.1.Au[j]=false)->eQ (k+1) s.1 (BS.Np blk anc far k c s).1
 |0,s,o,f,_,_=> .refl o f
 |c+1,s,o,f,hl,hs=>by
  have a1:=Ĺ (m:=k+(c+1)) (k:=k+(c+1)) (blk:=blk) (anc:=anc) (far:=far) (l:=s.2.1) (q:=s.2.2) o f hl (Ad _) (λh=>hs _ h Ac Ac);obtain⟨_,h2,_⟩:=OZ (blk:=blk) (anc:=anc) (far:=far) (i:=k+(c+1)) (l:=s.2.1) (m:=s.2.2) o hl;have a2:=lC (blk:=blk) (anc:=anc) (far:=far) (k:=k) (c:=c) (s:=BS.Gu blk anc far (k+(c+1)) s.1 s.2.1 s.2.2) a1.ok a1.ac h2 (λj hj h3 p=>by
   have e:(BS.Gu blk anc far (k+(c+1)) s.1 s.2.1 s.2.2).1.Au[j]?=s.1.Au[j]?:=by have:=B6 (λl=>l[j]?) a1.fm.J4;simpa only[CQ (Ac:j<k+(c+1))] using this
   rw[Av hj] at e;obtain⟨g,d⟩:=Aj.1 e.symm;rw[<-d];exact hs j g h3 Ac)
  exact(a1.lem Ac).trans a2
def aB4{x:Item}(h:x∈l):∃k,∃h:k<l.length,l[k]=x:=LU h
def Zv{x:Int}(hm:m<=l.length)(hs:∀i∈l,i.node=x->AS i=false)(hp:∀i∈l.take m,AS i=true):aB m l (Cg x l):=by
 unfold Cg;split;.exact .refl
 .rename_i h;rcases BZ (q:=Bt x) (l:=l) with⟨h1,_⟩|⟨k,hk,h1,h2,_⟩
  .omega
  .have e:(AD (Bt x) l).toNat=k:=by rw[h1];omega
   rw[e];have h3:=hs _ (AG hk) (CC h2);refine Xo ?_ λ_=>h3;rcases Bm k m with a|a
   .have:=hp l[k] (CZ.2 ⟨k,Ac,rfl⟩);rw[this] at h3;cases h3
   .exact a
def vg{fe:Cn}{blk anc:Int}{s:BS×Int×Nat}(o:EC s.1)(f:Vm s.1.a s.1.A3)(hfe:fe.name∈B2)(hl:m<=s.1.Au.length)(hp:∀i∈s.1.Au.take m,AS i=true)(hx:∀i∈s.1.Au,i.node=fe.node->AS i=false)(hb:∃i∈s.1.Au,AS i=true/\i.node=blk)(d:∀i∈s.1.Au.take m,i.node≠blk):eQ m s.1 (BS.IX fe blk anc s):=by
 obtain⟨ok,le⟩:=Va (fe:=fe) (blk:=blk) (anc:=anc) (s:=s) o;unfold BS.IX at ok le⊢;simp only at ok le⊢;generalize xw:s.1.place anc=pb at*;have l1:Le s.1.a (s.1.a.Et s.2.1 pb.1 pb.2):=JK;have y:=o.I5 (PM (n:=s.2.1) (p:=pb.1) (b:=pb.2) o.ok) l1;have f1:Vm (s.1.a.Et s.2.1 pb.1 pb.2) s.1.A3:=f.le l1 o.ac;have z:({s.1 with a:=s.1.a.Et s.2.1 pb.1 pb.2}:BS).tm=s.1.tm/\({s.1 with a:=s.1.a.Et s.2.1 pb.1 pb.2}:BS).Au=s.1.Au/\({s.1 with a:=s.1.a.Et s.2.1 pb.1 pb.2}:BS).A3=s.1.A3:=⟨rfl,rfl,rfl⟩;obtain⟨w,fr,l3⟩:=Qf (nm:=fe.name) (at_:=fe.As) (p:=blk) y KG;have v:=Xp (b:={s.1 with a:=s.1.a.Et s.2.1 pb.1 pb.2}) (nm:=fe.name) (at_:=fe.As) (p:=blk);have ea:=mb (b:={s.1 with a:=s.1.a.Et s.2.1 pb.1 pb.2}) (nm:=fe.name) (at_:=fe.As) (p:=blk);have u:=ma (b:={s.1 with a:=s.1.a.Et s.2.1 pb.1 pb.2}) (nm:=fe.name) (at_:=fe.As) (p:=blk);have hn:=O2 (b:={s.1 with a:=s.1.a.Et s.2.1 pb.1 pb.2}) (nm:=fe.name) (at_:=fe.As);have hs:=P0 (b:={s.1 with a:=s.1.a.Et s.2.1 pb.1 pb.2}) (nm:=fe.name) (at_:=fe.As);have l2:Le s.1.a (BS.Gf {s.1 with a:=s.1.a.Et s.2.1 pb.1 pb.2} fe.name fe.As 1 blk).a:=l1.trans l3;have f3:Vm (BS.Gf {s.1 with a:=s.1.a.Et s.2.1 pb.1 pb.2} fe.name fe.As 1 blk).a s.1.A3:=f.le l2 o.ac;generalize BS.HA {s.1 with a:=s.1.a.Et s.2.1 pb.1 pb.2} fe.name fe.As 1=n at*;generalize BS.Gf {s.1 with a:=s.1.a.Et s.2.1 pb.1 pb.2} fe.name fe.As 1 blk=b3 at*;simp only at ea u;have t:=W9 l2 o.ac;obtain⟨_,l4⟩:=KB (n:=n.node) (l:=(b3.a.nd blk).Bi) w.ok;have c:Le b3.a ((BS.DA b3.a n.node (b3.a.nd blk).Bi).F9 blk n.node 0):=l4.trans Hs;have f5:=f3.le c t;have g1:=Zv (x:=fe.node) hl hx hp;have r:∃i∈Cg fe.node s.1.Au,AS i=true/\i.node=blk:=by
  obtain⟨i,h1,h2,h3⟩:=hb;have:i∈(Cg fe.node s.1.Au).filter AS:=by rw[g1.sp];exact BE.2 ⟨h1,h2⟩
  exact⟨i,(BE.1 this).1,h2,h3⟩
 have g:m<=H0 (AD (Bt blk) (Cg fe.node s.1.Au)+1) (Cg fe.node s.1.Au).length:=by
  obtain⟨i,h1,h2,h3⟩:=r;obtain⟨k,hk,rfl⟩:=aB4 h1;have D:=Nu (q:=Bt blk) hk (Ak h3);have C:=(LG (q:=Bt blk) (l:=Cg fe.node s.1.Au)).1;have B:=g1.len hl;have A:m<=k:=by
   rcases Bm k m with h|h
   .exfalso;refine d (Cg fe.node s.1.Au)[k] ?_ h3;rw[<-g1.J4];exact CZ.2 ⟨k,Ac,rfl⟩
   .exact h
  unfold H0;omega
 have g2:=aHu (l:=Cg fe.node s.1.Au) (n:=n) g (Nat.min_le_right _ _) (Ht hs (by rw[hn];exact hfe));refine⟨?_,ok,?_,le,v⟩;.simp only;rw[u];exact g1.trans g2
 .simp only
  rw[ea];intro e he;rcases Ao.1 he with h|h
  .exact f5 e (CO.subset (A9 h))
  .rcases AF.1 h with rfl|h
   .refine .inr ⟨hfe,?_,?_⟩;.simp only;rw[c.name _ fr.has,fr.name,hn]
    .simp only;rw[c.Bd _ fr.has,fr.Bd,hs]
   .exact f5 e (CO.subset (A6 h))
def mc{i:Int}(hm:m<=max 1 i.toNat)(h:∀x∈l.drop (max 1 i.toNat),AS x=false):aB m l (Hc l i):=l_ hm h
def vh(o:EC b)(f:Vm b.a b.A3)(hnm:nm∈B2)(hl:m<=b.Au.length)(hp:∀i∈b.Au.take m,AS i=true):eQ m b (b.C1 nm):=by
 have ok:=dW (nm:=nm) o;unfold BS.C1 at ok⊢;split
 .rename_i i hi;rw[hi] at ok;simp only at ok;split
  .rename_i h1;rw[Ae h1] at ok;obtain⟨A,C,e,_,g⟩:=Ug hi;have c:AS i=false:=by have:=CC h1;exact Ht this.1 (by have h2:=this.2;simp at h2;rw[h2];exact hnm)
   have d:∀x∈C,AS x=false:=λx hx=>by have:=g x hx;rw[Lc] at this;exact this.2
   have p:m<=A.length:=by
    rcases Bm A.length m with h|h
    .have:=hp i (CZ.2 ⟨A.length,by rw[e] at hl⊢;omega,by simp[e]⟩);rw[c] at this;cases this
    .exact h
   have key:∀j,A.length<=j->∀x∈b.Au.drop j,AS x=false:=by
    intro j hj x hx;rw[e] at hx;have Z8:x∈(A++i::C).drop A.length:=by
     have:(A++i::C).drop j=((A++i::C).drop A.length).drop (j-A.length):=by rw[Ez];congr 1;omega
     rw[this] at hx;exact A6 hx
    rw[Rn] at Z8;rcases AF.1 Z8 with rfl|h
    .exact c
    .exact d x h
   refine⟨?_,ok,f,.refl,rfl⟩;simp only
   have Wk:=Zs o nm;have r:b.C1 nm={b with Au:=Hq i.node (D6 (CL nm) Dm b.Au)}:=by unfold BS.C1;rw[hi];simp only;rw[Ae h1]
   rw[r] at Wk;rcases Wk with h|⟨h0,h⟩
   .have:Hq i.node (D6 (CL nm) Dm b.Au)=b.Au:=B6 BS.Au h;rw[this];exact .refl
   .have:Hq i.node (D6 (CL nm) Dm b.Au)=Hc b.Au (AD (AH [nm]) b.Au):=B6 BS.Au h;rw[this];have q:(AD (AH [nm]) b.Au)=(A.length:Int):=by rw[e];exact HG h1 λx hx=>by have:=g x hx;rw[Lc] at this;exact this.1
    rw[q];exact mc Ac (key _ Ac)
  .exact .refl o f
 .exact .refl o f
def O3{U:Type}{l:List U}{x:U}{j:Nat}(h:x∈l.drop j):∃k,∃hk:k<l.length,j<=k/\l[k]=x:=by obtain⟨k,hk,e⟩:=LU h;rw[Hb] at e;rw[A4] at hk;exact⟨j+k,Ac,Ac,e⟩
def Sn{x:Int}(hk:0<=AD (Bt x) l):(Ec x l<0/\∀j (h:j<l.length),(AD (Bt x) l).toNat<j->AS l[j]=false)\/∃j,∃h:j<l.length,Ec x l=(j:Int)/\(AD (Bt x) l).toNat<j/\AS l[j]=true/\∀q (hq:q<l.length),(AD (Bt x) l).toNat<q->q<j->AS l[q]=false:=by
 rw[Me,Aa Ac];generalize(AD (Bt x) l).toNat=k;unfold Gy;cases hf:(l.drop (k+1)).findIdx? AS with
 |none=>
  left;refine⟨AB,λj hj hlt=>?_⟩;rw[List.findIdx?_eq_none_iff] at hf;have:=hf l[j] (by
   have e:l[j]=(l.drop (k+1))[j-(k+1)]'(by rw[A4];omega):=by rw[Hb];congr 1;omega
   rw[e];exact AG _)
  simpa using this
 |some q=>right;obtain⟨h1,h2,h3⟩:=List.findIdx?_eq_some_iff_getElem.1 hf;rw[A4] at h1;refine⟨k+1+q,Ac,FY,Ac,by rw[Hb] at h2;exact h2,λr hr c a=>?_⟩;have:=h3 (r-(k+1)) Ac;rw[Hb] at this;have e:k+1+(r-(k+1))=r:=Ac;simp only[e] at this;simpa using this
def qU(o:EC b)(f:Vm b.a b.A3)(hnm:nm∈B2)(hl:m<=b.Au.length)(hp:∀i∈b.Au.take m,AS i=true):eQ m b (b.round nm).2:=by
 obtain⟨ok,le⟩:=Y4 (nm:=nm) o;unfold BS.round at ok le⊢;simp only at ok le⊢;split;.exact vh o f hnm hl hp
 .rename_i h1;rw[Aa h1] at ok le;obtain⟨C,y,hname⟩:=S0 h1;generalize b.A3.getD (DT nm b.A3).toNat Cn.zero=fe at*;split;.rename_i h2;rw[Ae h2] at ok le;exact⟨.refl,ok,f.sub CO,le,rfl⟩
  .rename_i h2;rw[Aa h2] at ok le;split;.exact .refl o f
   .rename_i h3;rw[Aa h3] at ok le;have z:fe.name∈B2:=by rw[hname];exact hnm
    have w:=f fe C;have y9:∀i∈b.Au,i.node=fe.node->AS i=false:=λi hi e=>by
     have p:=o.op i hi;rcases w with g|g
     .exact absurd g y
     .rw[e] at p;exact Ht (by rw[<-p.2.2.1,g.2.2]) (by rw[<-p.2.2.2,g.2.1];exact g.1)
    rcases BZ (q:=Bt fe.node) (l:=b.Au) with⟨p,_⟩|⟨k,hk,p,g,_⟩
    .omega
    have Y_:(AD (Bt fe.node) b.Au).toNat=k:=by rw[p];omega
    have E:m<=k:=by
     rcases Bm k m with h|h
     .have t:=hp b.Au[k] (CZ.2 ⟨k,Ac,rfl⟩);rw[y9 _ (AG hk) (CC g)] at t;cases t
     .exact h
    have vi:=Sn (x:=fe.node) (l:=b.Au) Ac;rw[Y_] at vi;split
    .rename_i t;rw[Ae t] at ok le;refine⟨?_,ok,f.sub CO,le,rfl⟩;simp only
     rw[VY,Aa Ac,p];rcases vi with⟨_,v⟩|⟨j,hj,v,_⟩
     .refine mc Ac λx hx=>?_;obtain⟨q,hq,F,rfl⟩:=O3 hx;rcases Bm k q with u|u
      .exact v q hq u
      .have:q=k:=by omega
       subst this;exact y9 _ (AG hk) (CC g)
     .omega
    .rename_i t;rw[Aa t] at ok le;rcases vi with⟨v,_⟩|⟨j,hj,v,F,u,eA⟩
     .omega
     have A:(Ec fe.node b.Au).toNat=j:=by rw[v];omega
     rw[Y_,A] at ok le⊢;have B:b.Au.getD j Item.zero=b.Au[j]:=by rw[AL,Av hj];rfl
     rw[B] at ok le⊢;generalize(b.Au.getD (k-1) Item.zero).node=anc at*;have a1:=lC (blk:=b.Au[j].node) (anc:=anc) (far:=j) (k:=k) (c:=j-1 -k) (s:=(b,b.Au[j].node,(DT nm b.A3).toNat)) o f (o.op _ (AG hj)).1 (λq hq Te d=>eA q hq Te Ac);generalize BS.Np b.Au[j].node anc j k (j-1 -k) (b,b.Au[j].node,(DT nm b.A3).toNat)=s at*;simp only at a1;have a0:=a1.fm.le (k:=m) Ac;have a2:=vg (m:=m) (fe:=fe) (blk:=b.Au[j].node) (anc:=anc) (s:=s) a1.ok a1.ac z (a0.len hl) (by rw[a0.J4];exact hp) (λi hi e=>by
      have Te:=a1.ok.op i hi;rcases w with d|d
      .exact absurd d y
      .have D:b.a.has fe.node:=by
        rcases o.ac fe C with r|r
        .exact absurd r y
        .exact r.1
       rw[e,a1.le.Bd _ D,a1.le.name _ D] at Te;exact Ht (by rw[<-Te.2.2.1,d.2.2]) (by rw[<-Te.2.2.2,d.2.1];exact d.1)) (by
      have:b.Au[j]∈s.1.Au.filter AS:=by rw[a1.fm.sp];exact BE.2 ⟨AG hj,u⟩
      exact⟨_,(BE.1 this).1,u,rfl⟩) (by
      rw[a0.J4];intro i hi e;obtain⟨q,hq,rfl⟩:=CZ.1 hi;have Te:(b.Au.map Item.node)[q]'(by rw[Aw];omega)=(b.Au.map Item.node)[j]'(by rw[Aw];omega):=by simp only[Ei];exact e
      have:=(Ow o.mU).1 Te;omega)
     exact(a1.lem Ac).trans a2
def eR(hnm:nm∈B2):∀{n:Nat} {b:BS},EC b->Vm b.a b.A3->m<=b.Au.length->(∀i∈b.Au.take m,AS i=true)->eQ m b (BS.Gp n b nm)
 |0,b,o,f,_,_=> .refl o f
 |n+1,b,o,f,hl,hp=>by
  have a1:=qU o f hnm hl hp;unfold BS.Gp;simp only
  split;.exact a1.trans (eR hnm (n:=n) a1.ok a1.ac (a1.fm.len hl) (by rw[a1.fm.J4];exact hp))
  .exact a1
def Vn(o:EC b)(f:Vm b.a b.A3)(hnm:nm∈B2)(hl:m<=b.Au.length)(hp:∀i∈b.Au.take m,AS i=true):eQ m b (b.C7 nm):=by
 have ok:=dY (nm:=nm) o;unfold BS.C7 at ok⊢;split
 .rename_i h;rw[Ae h] at ok;unfold BS.FB at ok⊢;split;.exact .refl o f
  .rename_i h2;rw[Aa h2] at ok;have ht:DP b.Au=b.Au[b.Au.length-1]'(by omega):=by have:=Km (l:=b.Au) (n:=b.Au.length-1) Ac;rwa [(Ac:b.Au.length-1+1=b.Au.length),Bl] at this
   have h3:=CC h.1;have hsp:AS (DP b.Au)=false:=Ht h3.1 (by have d:=h3.2;simp at d;rw[d];exact hnm);refine⟨l_ ?_ ?_,ok,f,.refl,rfl⟩
   .rcases Bm (b.Au.length-1) m with c|c
    .have:=hp (DP b.Au) (by rw[ht];exact CZ.2 ⟨b.Au.length-1,Ac,rfl⟩);rw[hsp] at this;cases this
    .exact c
   .intro x hx;obtain⟨q,hq,e,rfl⟩:=O3 hx;have:q=b.Au.length-1:=Ac;subst this;rw[<-ht];exact hsp
 .exact eR hnm o f hl hp
end
abbrev Em:Item->Bool:=AH [AW]
def bF:List Ah:=[aXM,aXR,aXS,aXV,aX4,aYp,aYe,aZe,aYm,[102,114,97,109,101],aYB,[116,100],aYy,[116,104],aYC,[116,114]]
def okI(i:Item):Prop:=i.Bd=1->i.name∉bF
inductive Pf:List Item->Prop
 |body (h o:Item) (h1:AH [IW] h=true) (h2:AH [Ii] o=true):Pf [h,o]
 |Ox (h t:Item) (h1:AH [IW] h=true) (h2:Em t=true):Pf [h,t]
 |head (h d t:Item) (h1:AH [IW] h=true) (h2:AH [I2] d=true) (h3:Em t=true):Pf [h,d,t]
def Ź(S:List Item):Prop:=∀A x C,S=A++x::C->AH [wP] x=true->IC (AH [wP]) (Im 3) A.reverse=false
section
variable{U:Type}{q e s:U->Bool}{r u:List U}{x:U}
def Ra(hq:∀a,q a=true->s a=true)(he:∀a,e a=true->s a=true):∀r:List U,IC q e (r.filter s)=IC q e r
 |[]=>rfl
 |a::r=>by
  cases hs:s a with
  |true=>rw[CW hs,IC,IC,Ra hq he r]
  |false=>
   rw[CX (by simp[hs]),Ra hq he r,IC];cases h1:q a with
   |true=>rw[hq a h1] at hs;cases hs
   |false=>
    cases h2:e a with
    |true=>rw[he a h2] at hs;cases hs
    |false=>simp
def Zw(hx:e x=false):∀u:List U,IC q e (u++x::r)=false->IC q e (u++r)=false
 |[],h=>by
  simp only[Bq,IC,hx] at h⊢;split at h;.cases h
  .simpa using h
 |a::u,h=>by
  simp only[BD,IC] at h⊢;split at h;.cases h
  .rename_i h1;rw[Aa h1];split at h;.rename_i h2;rw[Ae h2]
   .rename_i h2;rw[Aa h2];exact Zw hx u h
def S1:∀{r:List U},IC q e r=true->∃C i A,r=C++i::A/\q i=true/\∀y∈C,q y=false/\e y=false
 |[],h=>by cases h
 |a::r,h=>by
  rw[IC] at h;split at h;.rename_i h1;exact⟨[],a,r,rfl,h1,λy hy=>by cases hy⟩
  .rename_i h1;split at h;.cases h
   .rename_i h2;obtain⟨C,i,A,h3,c,b⟩:=S1 h;refine⟨a::C,i,A,by rw[h3];rfl,c,λy hy=>?_⟩;rcases AF.1 hy with rfl|hy
    .exact⟨by simpa using h1,by simpa using h2⟩
    .exact b y hy
end
section
variable{P l l' A C:List Item}{n m k j:Nat}{i x:Item}{w:Int}
def B9{ws:List Ah}:AH ws i=true↔i.Bd=1/\i.name∈ws:=aRE
def Zx{ws:List Ah}(h:AH ws i=true)(hw:∀w∈ws,D5 1 w=true):AS i=true:=by have:=B9.1 h;unfold AS;rw[this.1];exact hw _ this.2
def spP(h:AH [wP] i=true):AS i=true:=Zx h Ed
def spT(h:Em i=true):AS i=true:=Zx h Ed
def spE(h:Im 3 i=true):AS i=true:=by
 unfold Im at h;rw[Aa Az,Aa Az] at h;split at h;.exact h
 .simp only[Kb,Bg] at h;rcases h with(h|⟨h,_⟩)|⟨_,h⟩
  .exact Zx h Ed
  .exact absurd (CC h) Az
  .exact Zx h Ed
def aLx(hs:w=1\/w=2\/w=3)(h:Em i=true):Im w i=true:=by have h1:=B9.1 h;unfold Im;rw[Aa Ac,Aa Ac,Aa Ac];have:AH PF i=true:=B9.2 ⟨h1.1,by have h2:=h1.2;simp at h2;rw[h2];decide⟩;rw[this];rfl
def aDD:IC (AH [wP]) (Im 3) (l.filter AS).reverse=IC (AH [wP]) (Im 3) l.reverse:=by rw[<-List.filter_reverse];exact Ra (λa=>spP) (λa=>spE) _
def Ź.J4(h:Ź (A++C)):Ź A:=λB x D e hx=>h B x (D++C) (by rw[e];simp) hx
def Ź.rem(h:Ź (A++x::C))(hx:Im 3 x=false):Ź (A++C):=by
 intro B y D e hy;rcases Ž.1 e with⟨Z,h1,h2⟩|⟨Z,h1,h2⟩
 .have:=h (A++x::Z) y D (by rw[h2];simp) hy;rw[h1];rw[ET,EX,A7,Ie] at this;rw[ET];exact Zw hx _ this
 .cases Z with
  |nil=>rw[A8] at h1;rw[Bq] at h2;have:=h (A++[x]) y D (by rw[<-h2];simp) hy;rw[ET,HJ] at this;rw[<-h1];exact Zw hx [] this
  |cons z Z=>simp only[BD,Cu] at h2;exact h B y (Z++x::C) (by rw[h1,h2.1];simp) hy
def Ź.push(h:Ź A)(hx:AH [wP] x=true->IC (AH [wP]) (Im 3) A.reverse=false):Ź (A++[x]):=by
 intro B y D e hy;rcases Ž.1 e with⟨Z,h1,h2⟩|⟨Z,h1,h2⟩
 .cases Z with
  |nil=>simp only[Bq,Cu] at h2;rw[h1,A8];exact hx (by rw[h2.1];exact hy)
  |cons z Z=>simp at h2
 .cases Z with
  |nil=>simp only[Bq,Cu] at h2;rw[A8] at h1;rw[<-h1];exact hx (by rw[<-h2.1];exact hy)
  |cons z Z=>simp only[BD,Cu] at h2;exact h B y Z (by rw[h1,h2.1]) hy
def Pf.sp(p:Pf P):∀i∈P,AS i=true:=by
 have h1:∀{i},AH [IW] i=true->AS i=true:=λh=>Zx h Ed;have h2:∀{i},AH [Ii] i=true->AS i=true:=λh=>Zx h Ed;have h3:∀{i},AH [I2] i=true->AS i=true:=λh=>Zx h Ed;intro i hi;cases p with
 |body h o a b=>simp at hi;rcases hi with rfl|rfl;exact h1 a;exact h2 b
 |Ox h o a b=>simp at hi;rcases hi with rfl|rfl;exact h1 a;exact spT b
 |head h d t a b c=>simp at hi;rcases hi with rfl|rfl|rfl;exact h1 a;exact h3 b;exact spT c
def H8:List Ah:=[aXM,aXR,aXS,aXP]
def Pf.nm(p:Pf P):∀i∈P,i.Bd=1/\i.name∈H8:=by
 have key:∀{w} {i:Item},AH [w] i=true->w∈H8->i.Bd=1/\i.name∈H8:=λh hw=>by have h1:=B9.1 h;have h2:=h1.2;simp at h2;exact⟨h1.1,by rw[h2];exact hw⟩
 intro i hi;cases p with
 |body h o a b=>simp at hi;rcases hi with rfl|rfl;exact key a Az;exact key b Az
 |Ox h o a b=>simp at hi;rcases hi with rfl|rfl;exact key a Az;exact key b Az
 |head h d t a b c=>simp at hi;rcases hi with rfl|rfl|rfl;exact key a Az;exact key b Az;exact key c Az
def Pf.len(p:Pf P):2<=P.length:=by cases p<;>simp
def Pf.aLy(p:Pf P):∃h r,P=h::r/\AH [IW] h=true:=by cases p with
 |body h o a b=>exact⟨_,_,rfl,a⟩
 |Ox h o a b=>exact⟨_,_,rfl,a⟩
 |head h d t a b c=>exact⟨_,_,rfl,a⟩
def Pf.last(p:Pf P):∃B z,P=B++[z]/\(AH [Ii] z=true\/Em z=true):=by cases p with
 |body h o a b=>exact⟨[h],o,rfl,.inl b⟩
 |Ox h o a b=>exact⟨[h],o,rfl,.inr b⟩
 |head h d t a b c=>exact⟨[h,d],t,rfl,.inr c⟩
structure DL(P l:List Item)(n:Nat):Prop where
 pf:Pf P
 J4:l.take P.length=P
 v:∀i∈(l.filter AS).drop P.length,okI i
 ź:(l.filter AS).countP Em=n
 GO:Ź (l.filter AS)
def DL.len(d:DL P l n):P.length<=l.length:=by have:=B6 List.length d.J4;rw[Ax] at this;omega
def DL.split(d:DL P l n):l=P++l.drop P.length:=by conv=>lhs;rw[<-Br P.length l,d.J4]
def DL.wS(d:DL P l n):l.filter AS=P++(l.drop P.length).filter AS:=by
 conv=>lhs;rw[d.split]
 rw[Be,Hw.2 (λi hi=>d.pf.sp i hi)]
def DL.v'(d:DL P l n):∀i∈l.drop P.length,AS i=true->okI i:=λi hi hs=>d.v i (by rw[d.wS,Rn];exact BE.2 ⟨hi,hs⟩)
def DL.ĺ(d:DL P l n):∀i∈l.take P.length,AS i=true:=by rw[d.J4];exact d.pf.sp
def DL.fm(d:DL P l n)(h:aB P.length l l'):DL P l' n:=⟨d.pf,h.J4.trans d.J4,by rw[h.sp];exact d.v,by rw[h.sp];exact d.ź,by rw[h.sp];exact d.GO⟩
def DL.take(d:DL P l n)(hj:P.length<=j)(ht:∀i∈l.drop j,Em i=false):DL P (l.take j) n:=by
 have e:l.filter AS=(l.take j).filter AS++(l.drop j).filter AS:=by rw[<-Be,Br]
 have hv:=d.v;have hc:=d.ź;have hp:=d.GO;rw[e] at hv hc hp;refine⟨d.pf,by rw[CK,BP hj];exact d.J4,λi hi=>hv i ?_,?_,hp.J4⟩;.rw[Jv];exact B4 _ hi
 .have e0:((l.drop j).filter AS).countP Em=0:=Hy.2 λi hi=>by rw[ht i (BE.1 hi).1];simp
  rw[JY,e0] at hc;exact hc
def DL.drop(d:DL P l n)(hk:P.length<=k)(h1:∀h:k<l.length,Em l[k]=false/\Im 3 l[k]=false):DL P (BA l k) n:=by
 rcases Bm k l.length with XX|JA
 rotate_left;.unfold BA;rw[Bf JA,AX Ac,A8];exact d
 cases a:AS l[k] with
 |false=>exact d.fm (Xo hk λ_=>a)
 |true=>
  obtain⟨ht,he⟩:=h1 XX;have e:l.filter AS=(l.take k).filter AS++l[k]::(l.drop (k+1)).filter AS:=by
   conv=>lhs;rw[<-Br k l,AA XX]
   rw[Be,CW a]
  have b:(BA l k).filter AS=(l.take k).filter AS++(l.drop (k+1)).filter AS:=by unfold BA;rw[Be]
  have hv:=d.v;have hc:=d.ź;have hp:=d.GO;rw[e] at hv hc hp;refine⟨d.pf,?_,?_,?_,?_⟩;.unfold BA;rw[Bk (by rw[Ax];omega),CK,BP hk];exact d.J4
  .rw[b];intro i hi;refine hv i ?_;have hl:P.length<=((l.take k).filter AS).length:=by
    have:(l.take k).filter AS=P++((l.take k).drop P.length).filter AS:=by
     have h3:l.take k=P++(l.take k).drop P.length:=by conv=>lhs;rw[<-Br P.length (l.take k),CK,BP hk,d.J4]
     conv=>lhs;rw[h3]
     rw[Be,Hw.2 (λi hi=>d.pf.sp i hi)]
    rw[this,An];omega
   rw[Pd hl] at hi⊢;rcases Ao.1 hi with h|h
   .exact B4 _ h
   .exact BJ _ (Pc _ h)
  .rw[b,JY];rw[JY,List.countP_cons_of_neg (by rw[ht];simp)] at hc;exact hc
  .rw[b];exact hp.rem he
def DL.aDE(d:DL P l n)(hi:okI i)(hp:AH [wP] i=true->IC (AH [wP]) (Im 3) l.reverse=false):DL P (l++[i]) (n+if Em i=true then 1 else 0):=by
 cases hs:AS i with
 |false=>
  have:Em i=false:=by
   cases h:Em i with
   |false=>rfl
   |true=>rw[spT h] at hs;cases hs
  rw[this];exact d.fm (eM d.len hs)
 |true=>
  have e:(l++[i]).filter AS=l.filter AS++[i]:=by rw[Be,CW hs];rfl
  refine⟨d.pf,by rw[Bk d.len];exact d.J4,?_,?_,?_⟩
  .rw[e];intro x hx;rw[Jv] at hx;rcases Ao.1 hx with h|h
   .exact d.v x h
   .have:=A6 h;simp at this;rw[this];exact hi
  .rw[e,JY,d.ź];congr 1
   rw[List.countP_singleton]
  .rw[e];exact d.GO.push λh=>by rw[aDD];exact hp h
def DL.push(d:DL P l n)(hi:okI i)(ht:Em i=false)(hp:AH [wP] i=true->IC (AH [wP]) (Im 3) l.reverse=false):DL P (l++[i]) n:=by have:=d.aDE hi hp;rw[ht] at this;exact this
def DL.aLz(d:DL P l n)(ht:Em i=true):DL P (l++[i]) (n+1):=by
 have h1:=B9.1 ht;have h2:=h1.2;simp at h2;have:=d.aDE (i:=i) (λ_=>by rw[h2];decide) (λh=>by have h3:=(B9.1 h).2;simp at h3;rw[h2] at h3;exact absurd h3 Az)
 rw[ht] at this;exact this
def lD{q:Item->Bool}(d:DL P l n)(a:∀i∈P,q i=false)(hk:k<l.length)(hq:q l[k]=true):P.length<=k:=by
 rcases Bm k P.length with h|h
 .exfalso;have:l[k]∈P:=by rw[<-d.J4];exact CZ.2 ⟨k,Ac,rfl⟩
  rw[a _ this] at hq;cases hq
 .exact h
def DL.sc{q:Item->Bool}(d:DL P l n)(hs:w=1\/w=2\/w=3)(a:∀i∈P,q i=false)(hq:∀i,q i=true->Em i=false)(h:IC q (Im w) l.reverse=true):0<=AD q l/\DL P (Hc l (AD q l)) n:=by
 obtain⟨C,i,A,e,h1,h2⟩:=S1 h;have el:l=A.reverse++i::C.reverse:=by have:=B6 List.reverse e;rw[DG] at this;rw[this];simp
 have b:AD q l=(A.reverse.length:Int):=by rw[el];exact HG h1 λx hx=>(h2 x (UA.1 hx)).1
 have hpos:P.length<=A.reverse.length:=lD d a (k:=A.reverse.length) (by rw[el];simp) (by
  have:l[A.reverse.length]'(by rw[el];simp)=i:=by simp[el]
  rw[this];exact h1)
 refine⟨Ac,?_⟩;have hl:=d.pf.len;unfold Hc;rw[b,(Ac:max 1 ((A.reverse.length:Int)).toNat=A.reverse.length)];refine d.take hpos λx hx=>?_;rw[el,Rn] at hx;rcases AF.1 hx with rfl|hx
 .exact hq _ h1
 .cases ht:Em x with
  |false=>rfl
  |true=>have:=(h2 x (UA.1 hx)).2;rw[aLx hs ht] at this;cases this
def Pf.not(p:Pf P){ws:List Ah}(h:∀w∈ws,w∉H8):∀i∈P,AH ws i=false:=λi hi=>by
 cases h1:AH ws i with
 |false=>rfl
 |true=>exact absurd (p.nm i hi).2 (h _ (B9.1 h1).2)
def Zy{ws:List Ah}(h:AW∉ws)(h1:AH ws i=true):Em i=false:=by
 cases h2:Em i with
 |false=>rfl
 |true=>have h3:=(B9.1 h2).2;simp at h3;have a:=(B9.1 h1).2;rw[h3] at a;exact absurd a h
def DL.Uj(d:DL P l n){s:Ah}:DL P (D6 (CL s) Dm l) n:=by
 rw[SI];have hu:∀i∈P,CL s i=true:=λi hi=>by have:=(d.pf.nm i hi).2;have key:∀w∈H8,w∉Fu:=Az;exact Ak (.inr (.inl (key _ this)))
 have hl:=d.len;have h2:=d.pf.len;have h1:(P.length:Int)-1<=AD (CL s) l:=by
  have hk:P.length-1<l.length:=Ac;have:l[P.length-1]∈P:=by have h3:l[P.length-1]∈l.take P.length:=CZ.2 ⟨P.length-1,Ac,rfl⟩;rwa [d.J4] at h3
  have:=Nu (q:=CL s) hk (hu _ this);omega
 unfold Hc;refine d.take Ac λi hi=>?_;obtain⟨k,hk,h3,rfl⟩:=O3 hi;have f:CL s l[k]=false:=by
  rcases BZ (q:=CL s) (l:=l) with⟨b,_⟩|⟨j,hj,b,_,a⟩
  .omega
  .exact a k hk Ac
 cases b:Em l[k] with
 |false=>rfl
 |true=>have a:=B9.1 b;have c:=a.2;simp at c;have:CL s l[k]=true:=Ak (.inr (.inl (by rw[c];decide)));rw[this] at f;cases f
def DL.FB(d:DL P l n)(hk:P.length<l.length)(ht:Em (DP l)=false):DL P (l.take (l.length-1)) n:=by refine d.take Ac λi hi=>?_;obtain⟨k,hk,h3,rfl⟩:=O3 hi;have e:k=l.length-1:=Ac;have:=Km (l:=l) (n:=l.length-1) Ac;rw[(Ac:l.length-1+1=l.length),Bl] at this;subst e;rw[<-this];exact ht
end
structure Cm(b:BS):Prop where
 ok:EC b
 ac:Vm b.a b.A3
 Ż:b.Ha≠0->b.a.has b.Ha/\(b.a.nd b.Ha).Bd=1/\(b.a.nd b.Ha).name=aYd
 fo:b.D4=false
 fr:b.Lh=false
 x_:∀m∈b.tm,m=7\/m=18
structure Mn(b:BS):Prop where
 has:b.a.has b.head
 kind:(b.a.nd b.head).kind=4
 Bd:(b.a.nd b.head).Bd=1
 name:(b.a.nd b.head).name=I2
structure Kp(b c:BS):Prop where
 ok:EC c
 ac:Vm c.a c.A3
 le:Le b.a c.a
 rest:c.rs=b.rs
structure Dp(P:List Item)(q:Int)(T:List Int)(b:BS):Prop where
 cm:Cm b
 hd:Mn b
 d:DL P b.Au T.length
 md:b.mode=q
 tme:b.tm=T
section
variable{P:List Item}{q:Int}{T:List Int}{m k j n:Nat}{b c d:BS}{nm x:Ah}{l:List Bj}{t:Dr}{sp h:Int}{i:Item}
def DQ:c.rs=b.rs↔c.tm=b.tm/\c.Ha=b.Ha/\c.head=b.head/\c.mode=b.mode/\c.IV=b.IV/\c.D4=b.D4/\c.Lh=b.Lh/\c.BM=b.BM:=by unfold BS.rs;simp only[Mt]
def Kp.refl(o:Cm b):Kp b b:=⟨o.ok,o.ac,.refl,rfl⟩
def Kp.trans(h:Kp b c)(g:Kp c d):Kp b d:=⟨g.ok,g.ac,h.le.trans g.le,g.rest.trans h.rest⟩
def eQ.kp(h:eQ m b c):Kp b c:=⟨h.ok,h.ac,h.le,h.rest⟩
def Cm.go(o:Cm b)(h:Kp b c):Cm c:=by obtain⟨f,r2,s,r,p,e,a,g⟩:=DQ.1 h.rest;refine⟨h.ok,h.ac,λhf=>?_,by rw[e];exact o.fo,by rw[a];exact o.fr,by rw[f];exact o.x_⟩;rw[r2] at hf⊢;obtain⟨h1,h2,h3⟩:=o.Ż hf;exact⟨h.le.has _ h1,by rw[h.le.Bd _ h1];exact h2,by rw[h.le.name _ h1];exact h3⟩
def Mn.le(o:Mn b)(hl:Le b.a c.a)(e:c.head=b.head):Mn c:=⟨by rw[e];exact hl.has _ o.has,by rw[e,hl.kind _ o.has];exact o.kind,by rw[e,hl.Bd _ o.has];exact o.Bd,by rw[e,hl.name _ o.has];exact o.name⟩
def Mn.go(o:Mn b)(h:Kp b c):Mn c:=o.le h.le (DQ.1 h.rest).2.2.1
def Dp.go(o:Dp P q T b)(h:Kp b c)(a:DL P c.Au T.length):Dp P q T c:=⟨o.cm.go h,o.hd.go h,a,(DQ.1 h.rest).2.2.2.1.trans o.md,(DQ.1 h.rest).1.trans o.tme⟩
def Dp.fm(o:Dp P q T b)(h:eQ P.length b c):Dp P q T c:=o.go h.kp (o.d.fm h.fm)
def sL(o:Cm b){ol:List Item}(hs:ol.Sublist b.Au):Kp b {b with Au:=ol}:=⟨o.ok.KH hs,o.ac,.refl,rfl⟩
def kpE(o:Cm b)(h1:c.a=b.a)(h3:c.Au=b.Au)(e:c.A3=b.A3)(h2:c.rs=b.rs):Kp b c:=⟨o.ok.of_eq h1 (DQ.1 h2).2.2.2.2.2.2.2 h3 e,by rw[h1,e];exact o.ac,by rw[h1];exact .refl,h2⟩
def Dp.eq(o:Dp P q T b)(h1:c.a=b.a)(h3:c.Au=b.Au)(e:c.A3=b.A3)(h2:c.rs=b.rs):Dp P q T c:=o.go (kpE o.cm h1 h3 e h2) (by rw[h3];exact o.d)
def L3:(b.Co nm l sp).rs=b.rs:=by
 unfold BS.Co BS.Gf;split;.rfl
 .rfl
def GS(o:Cm b):Kp b (b.Co nm l sp):=⟨YZ o.ok,by rw[H6];exact o.ac.le PO o.ok.ac,PO,L3⟩
def O4:((b.Co nm l 1).a.nd (b.a.len+1)).name=nm/\((b.Co nm l 1).a.nd (b.a.len+1)).Bd=1/\(b.Co nm l 1).a.has (b.a.len+1)/\((b.Co nm l 1).a.nd (b.a.len+1)).kind=4:=by
 have h0:=Y0 (b:=b) (nm:=nm) (at_:=l) (sp:=1) KG;refine⟨?_,?_,h0⟩<;>unfold BS.Co BS.Gf<;>rw[Ae KG]<;>simp only<;>rw[Ae KG]<;>simp only
 .have h1:=OY (A:=b.a) (d:=b.Ko (b.place 0).1) (sp:=1) (nm:=BS.Mf 1 nm) (l:=l.map (DR 1));rw[JK.name _ h1.1,h1.2.2.2.1,nm1]
 .have h1:=OY (A:=b.a) (d:=b.Ko (b.place 0).1) (sp:=1) (nm:=BS.Mf 1 nm) (l:=l.map (DR 1));rw[JK.Bd _ h1.1,h1.2.2.1]
def P1(o:Cm b){r:Int}:Kp b (b.Jk r):=by
 have hl:Le b.a (b.Jk r).a:=by unfold BS.Jk;exact(dV o.ok.ok (TZ o.ok (.inl rfl)).1).2
 exact⟨aq o.ok,o.ac.le hl o.ok.ac,hl,rfl⟩
def Jr(o:Cm b){s:Ah}:Kp b (b.DD s h):=by
 have hl:Le b.a (b.DD s h).a:=by
  unfold BS.DD;simp only
  split;.exact(MW o.ok.ok).2
  .exact(MW o.ok.ok).2
 exact⟨Y2 o.ok,o.ac.le hl o.ok.ac,hl,rfl⟩
def Zz(o:Cm b):Kp b (b.FJ l h):=by
 have h1:=pQ (l:=l) (h:=h) o.ok;unfold BS.FJ at h1⊢;split;.rename_i hk;rw[Ae hk] at h1;exact⟨h1,o.ac.le QZ o.ok.ac,QZ,rfl⟩
 .exact .refl o
def Dp.Jk(o:Dp P q T b){r:Int}:Dp P q T (b.Jk r):=o.go (P1 o.cm) o.d
def Dp.DD(o:Dp P q T b){s:Ah}:Dp P q T (b.DD s h):=o.go (Jr o.cm) o.d
def eS:(b.FJ l h).Au=b.Au:=by unfold BS.FJ;split<;>rfl
def Dp.FJ(o:Dp P q T b):Dp P q T (b.FJ l h):=o.go (Zz o.cm) (by rw[eS];exact o.d)
def KZ{ws:List Ah}:AH ws (b.HA nm l 1)=decide (nm∈ws):=by unfold AH;rw[O2,P0];simp
def Dp.Mw(o:Dp P q T b)(h1:nm∉bF)(h2:nm≠AW)(h3:nm=wP->IC (AH [wP]) (Im 3) b.Au.reverse=false):Dp P q T (b.Co nm l 1):=by
 refine o.go (GS o.cm) ?_;rw[EM];refine o.d.push (λ_=>by rw[O2];exact h1) ?_ λh=>h3 ?_;.rw[Em,KZ];simpa using h2
 .rw[KZ] at h;simpa using h
def Dp.aLA(o:Dp P q T b)(hs:sp=2\/sp=3):Dp P q T (b.Co nm l sp):=by
 have hk:BS.LD sp:=by unfold BS.LD;omega
 refine o.go (GS o.cm) ?_;have e:(b.Co nm l sp).Au=b.Au++[b.HA nm l sp]:=by
  unfold BS.Co;rw[Ae hk];have:(b.Gf nm l sp (b.place 0).1).Au=b.Au:=by unfold BS.Gf;rw[Ae hk]
  simp only[this]
 have es:(b.HA nm l sp).Bd=sp:=by unfold BS.HA;rw[Ae hk]
 have no:∀ws,AH ws (b.HA nm l sp)=false:=λws=>by unfold AH;rw[es];exact Ap λh=>by have:=h.1;omega
 rw[e];exact o.d.push (λh=>by rw[es] at h;omega) (no _) λh=>by rw[no] at h;cases h
def Rb(h1:1<=b.Au.length):(b.Co nm l 1).FB.Au=b.Au:=by unfold BS.FB;rw[EM];rw[Aa EE];simp only[An,AQ,ML];rw[Bk (Ad _),Bl]
def wT(o:Cm b):Kp b b.FB:=by
 unfold BS.FB;split;.exact .refl o
 .exact sL o (Ch _ _)
def Uk(o:Cm b):Kp b (b.Co nm l 1).FB:=(GS o).trans (wT (o.go (GS o)))
def Dp.fO(o:Dp P q T b):Dp P q T (b.Co nm l 1).FB:=o.go (Uk o.cm) (by rw[Rb (by have:=o.d.len;have:=o.d.pf.len;omega)];exact o.d)
def aLB(a:Item)(h:AH [wP] a=true):CL wP a=true:=by have:=(B9.1 h).2;simp at this;exact Ak (.inr (.inr this))
def Dp.B7(o:Dp P q T b):Dp P q T b.B7/\IC (AH [wP]) (Im 3) b.B7.Au.reverse=false:=by
 unfold BS.B7;split
 .rename_i h;obtain⟨h0,g⟩:=o.d.sc (.inr (.inr rfl)) (o.d.pf.not Az) (λi hi=>Zy Az hi) h;rw[Nv aLB h0];refine⟨o.go (sL o.cm Nq) g,?_⟩;simp only
  obtain⟨C,i,A,e,h1,h2⟩:=S1 h;have el:b.Au=A.reverse++i::C.reverse:=by have:=B6 List.reverse e;rw[DG] at this;rw[this];simp
  have a:AD (AH [wP]) b.Au=(A.reverse.length:Int):=by rw[el];exact HG h1 λx hx=>(h2 x (UA.1 hx)).1
  have hpos:=lD o.d (o.d.pf.not (ws:=[wP]) Az) (k:=A.reverse.length) (by rw[el];simp) (by
   have:b.Au[A.reverse.length]'(by rw[el];simp)=i:=by simp[el]
   rw[this];exact h1)
  have hl:=o.d.pf.len;have f:Hc b.Au (AD (AH [wP]) b.Au)=A.reverse:=by unfold Hc;rw[a,(Ac:max 1 ((A.reverse.length:Int)).toNat=A.reverse.length),el,Fb]
  rw[f,<-aDD];refine o.d.GO (A.reverse.filter AS) i (C.reverse.filter AS) ?_ h1;rw[el,Be,CW (spP h1)]
 .rename_i h;exact⟨o,by simpa using h⟩
def Dp.block(o:Dp P q T b)(h1:nm∉bF)(h2:nm≠AW):Dp P q T (b.B7.Co nm l 1):=o.B7.1.Mw h1 h2 λ_=>o.B7.2
def Dp.Dw(o:Dp P q T b){sc:Int}(hs:sc=1\/sc=2\/sc=3)(h1:nm∉H8)(hx:nm∉Fu\/nm=x)(h:IC (AH [nm]) (Im sc) b.Au.reverse=true):Dp P q T (b.Dw nm x):=by
 have e:AW∉[nm]:=by rintro h;simp at h;rw[<-h] at h1;exact h1 Az
 obtain⟨h0,f⟩:=o.d.sc hs (o.d.pf.not (by simpa using h1)) (λi hi=>Zy e hi) h;unfold BS.Dw;rw[Nv (λa ha=>by have:=(B9.1 ha).2;simp at this;exact Ak (.inr (by rw[this];exact hx))) h0]
 exact o.go (sL o.cm Nq) f
def vj(o:Cm b)(hn:nm∈B2):Kp b (b.Eu nm l):=by
 refine⟨dU o.ok,?_,PO,?_⟩
 .unfold BS.Eu;simp only
  obtain⟨l',h1,h2⟩:=T0 (l:=(b.Co nm l 1).A3) (e:=⟨b.a.len+1,nm,l⟩);rw[h2];intro e he;rcases Ao.1 he with h|h
  .have:=h1.subset h;rw[H6] at this;exact(o.ac.le PO o.ok.ac) e this
  .simp at h;subst h;exact .inr ⟨hn,O4.1,O4.2.1⟩
 .unfold BS.Eu;exact L3
def wU:(b.Eu nm l).Au=b.Au++[b.HA nm l 1]:=by unfold BS.Eu;exact EM
def lE(hn:nm∈B2)(hm:m<=b.Au.length):aB m b.Au (b.Co nm l 1).Au:=by rw[EM];exact eM hm (Ht P0 (by rw[O2];exact hn))
def Dp.Eu(o:Dp P q T b)(hn:nm∈B2):Dp P q T (b.Eu nm l):=by refine o.go (vj o.cm hn) (o.d.fm ?_);have:=lE (b:=b) (l:=l) hn o.d.len;rw[EM] at this;rw[wU];exact this
def me{m:Nat}:∀{es:List Cn} {b:BS},Cm b->(∀e∈es,e.name∈B2)->m<=b.Au.length->aB m b.Au (BS.JJ es b).2.Au/\Le b.a (BS.JJ es b).2.a/\(BS.JJ es b).2.rs=b.rs/\∀e∈(BS.JJ es b).1,e.name∈B2/\((BS.JJ es b).2.a.nd e.node).name=e.name/\((BS.JJ es b).2.a.nd e.node).Bd=1
 |[],b,_,_,_=>⟨.refl,.refl,rfl,λe he=>by cases he⟩
 |e::es,b,o,hf,hm=>by
  have f:=GS (nm:=e.name) (l:=e.As) (sp:=1) o;have f1:=lE (b:=b) (l:=e.As) (hf e AB) hm;obtain⟨h1,h2,h3,g⟩:=me (m:=m) (es:=es) (b:=b.Co e.name e.As 1) (o.go f) (λx hx=>hf x (by simp[hx])) (f1.len hm);have hn:=O4 (b:=b) (nm:=e.name) (l:=e.As);rw[BS.JJ];refine⟨f1.trans h1,f.le.trans h2,h3.trans f.rest,λx hx=>?_⟩;rcases AF.1 hx with rfl|hx
  .exact⟨hf e AB,by simp only;rw[h2.name _ hn.2.2.1];exact hn.1,by simp only;rw[h2.Bd _ hn.2.2.1];exact hn.2.1⟩
  .exact g x hx
def ZA(o:Cm b)(hm:m<=b.Au.length):eQ m b b.AM:=by
 have hu:∀e∈b.A3.drop b.NM,e.name∈B2:=by
  intro e he;obtain⟨k,hk,f⟩:=LU he;rw[Hb] at f;rw[A4] at hk;have h1:b.settled e=false:=by
   rcases BZ (q:=b.settled) (l:=b.A3) with⟨h2,h3⟩|⟨n,hn,h2,_,a⟩
   .exact h3 e (A6 he)
   .rw[<-f];refine a _ Ac ?_;unfold BS.NM;rw[h2];omega
  have h2:e.node≠0:=λh3=>by have:=V5 (b:=b) (e:=e);rw[h1] at this;simp[h3] at this
  rcases o.ac e (A6 he) with h3|h3
  .exact absurd h3 h2
  .exact h3.1
 obtain⟨h1,h2,h3,a⟩:=me (m:=m) o hu hm;have ok:=Y3 o.ok;refine⟨h1,ok,?_,h2,h3⟩;intro e he;unfold BS.AM at he;simp only at he;rcases Ao.1 he with h|h
 .exact(o.ac.le h2 o.ok.ac) e (A9 h)
 .exact .inr (a e h)
def Dp.AM(o:Dp P q T b):Dp P q T b.AM:=o.fm (ZA o.cm o.d.len)
def Dp.C7(o:Dp P q T b)(hn:nm∈B2):Dp P q T (b.C7 nm):=o.fm (Vn o.cm.ok o.cm.ac hn o.d.len o.d.ĺ)
def Dp.C1(o:Dp P q T b)(h1:nm≠AW)(h2:nm≠Ii)(h3:nm≠IW):Dp P q T (b.C1 nm):=by
 have law:=Zs o.cm.ok nm;by_cases hb:b.C1 nm=b;.rw[hb];exact o
 rcases law with h|⟨h0,h⟩
 .exact absurd h hb
 unfold BS.C1 at hb;split at hb
 .rename_i i hi;split at hb
  .rename_i hq;obtain⟨A,C,e,_,u⟩:=Ug hi;have a:∀x∈C,AH [nm] x=false/\AS x=false:=λx hx=>by have:=u x hx;rw[Lc] at this;exact this
   have D:AD (AH [nm]) b.Au=(A.length:Int):=by rw[e];exact HG hq λx hx=>(a x hx).1
   have Z7:=(B9.1 hq).2;simp at Z7;have hl:=o.d.pf.len;have hlen:=o.d.len;have v:P.length<=A.length:=by
    rcases Bm A.length P.length with hlt|JA
    .exfalso;obtain⟨B,z,g,hz⟩:=o.d.pf.last;have s:P.length=B.length+1:=by rw[g];simp
     have hk:B.length<b.Au.length:=Ac;have xi:b.Au[B.length]=z:=by
      have p:(b.Au.take P.length)[B.length]'(by rw[Ax];omega)=P[B.length]'(by omega):=by simp only[o.d.J4]
      rw[IH] at p;rw[p];simp[g]
     have Lu:=o.d.pf.sp z (by rw[g];simp);rcases Bm A.length B.length with y|y
     .have:z∈C:=by
       have f:b.Au[B.length]=(A++i::C)[B.length]'(by rw[<-e];exact hk):=by simp only[<-e]
       rw[<-xi,f,ż Ac];obtain⟨r,hr⟩:∃r,B.length-A.length=r+1:=⟨B.length-A.length-1,Ac⟩;simp only[hr,JX];exact AG _
      rw[(a z this).2] at Lu;cases Lu
     .have w:A.length=B.length:=by omega
      have:z=i:=by
       have f:b.Au[B.length]=(A++i::C)[B.length]'(by rw[<-e];exact hk):=by simp only[<-e]
       rw[<-xi,f];simp[<-w]
      rw[this] at hz;rcases hz with hz|hz
      .have:=(B9.1 hz).2;simp at this;exact h2 (by rw[<-Z7,this])
      .have:=(B9.1 hz).2;simp at this;exact h1 (by rw[<-Z7,this])
    .exact JA
   rw[h];refine o.go (sL o.cm Nq) ?_;simp only
   unfold Hc;rw[D,(Ac:max 1 ((A.length:Int)).toNat=A.length)];refine o.d.take v λx hx=>?_;rw[e,Rn] at hx;rcases AF.1 hx with rfl|hx
   .exact Zy (by simpa using C3 h1) hq
   .cases ht:Em x with
    |false=>rfl
    |true=>have:=(a x hx).2;rw[spT ht] at this;cases this
  .exact absurd rfl hb
 .exact absurd rfl hb
def Dp.Uj(o:Dp P q T b){s:Ah}:Dp P q T {b with Au:=D6 (CL s) Dm b.Au}:=o.go (sL o.cm Dh) o.d.Uj
def DL.Cg(o:Dp P q T b){y:Int}(h:∀i∈b.Au,i.node=y->i.name∉H8/\Em i=false/\Im 3 i=false):DL P (Cg y b.Au) T.length:=by
 unfold Am.Cg;split;.exact o.d
 .rename_i h1;rcases BZ (q:=Bt y) (l:=b.Au) with⟨h2,_⟩|⟨k,hk,h2,h3,_⟩
  .omega
  .have e:=h _ (AG hk) (CC h3);rw[(Ac:(AD (Bt y) b.Au).toNat=k)];refine o.d.drop ?_ λ_=>e.2;rcases Bm k P.length with a|a
   .exfalso;have:b.Au[k]∈P:=by have f:b.Au[k]∈b.Au.take P.length:=CZ.2 ⟨k,Ac,rfl⟩;rwa [o.d.J4] at f
    exact e.1 (o.d.pf.nm _ this).2
   .exact a
def aB6{ws:List Ah}(hw:∀w∈ws,w∉PF/\w≠aXQ)(h:AH ws i=true):Im 3 i=false:=by
 have h1:=B9.1 h;have h2:=hw _ h1.2;cases he:Im 3 i with
 |false=>rfl
 |true=>
  unfold Im at he;rw[Aa Az,Aa Az,Aa (by rw[h1.1];decide)] at he;simp only[Kb,Bg] at he;rcases he with(he|⟨he,_⟩)|⟨_,he⟩
  .exact absurd (B9.1 he).2 h2.1
  .exact absurd (CC he) Az
  .have:=(B9.1 he).2;simp at this;exact absurd this h2.2
def Dp.Cg(o:Dp P q T b){y:Int}{w:Ah}(hw:w∉H8)(f:w≠AW)(a:w∉PF/\w≠aXQ)(h:∀i∈b.Au,i.node=y->i.Bd=1/\i.name=w):Dp P q T {b with Au:=Am.Cg y b.Au}:=by refine o.go (sL o.cm EL) (DL.Cg o λi hi e=>?_);obtain⟨h1,h2⟩:=h i hi e;have h3:AH [w] i=true:=B9.2 ⟨h1,by simp[h2]⟩;exact⟨by rw[h2];exact hw,Zy (by simpa using C3 f) h3,aB6 (by simpa using a) h3⟩
def Dp.eU(o:Dp P q T b){ws:List Ah}(hw:∀w∈ws,w∉H8)(h:AH ws (DP b.Au)=true):Dp P q T b.FB:=by
 have hl:=o.d.len;have h2:=o.d.pf.len;have ht:DP b.Au=b.Au[b.Au.length-1]'(by omega):=by have:=Km (l:=b.Au) (n:=b.Au.length-1) Ac;rwa [(Ac:b.Au.length-1+1=b.Au.length),Bl] at this
 have hpos:=lD o.d (o.d.pf.not hw) (k:=b.Au.length-1) Ac (by rw[<-ht];exact h);have hk:=wT o.cm;unfold BS.FB at hk⊢;rw[Aa Ac] at hk⊢;refine o.go hk (o.d.FB Ac (Zy (λa=>hw _ a Az) h))
end
def Gn(h:Ai)(F:Nat->Prop)(f:FuncId)(args:List Ab)(r:Ab)(bi:Nat)(b':BS):Prop:=∃h' F',CD cx f args h r h'/\PB h' bi b' F'/\FC h F h' F'
abbrev CT(t:Dr)(av:Ab):List Ab:=[I t.k,.str t.name,.bool t.hn,.str t.Lg,.bool t.hp,.str t.sys,.bool t.hs,.bool t.q,av,.bool t.sc,.str t.data,.int .i32 t.r]
section
variable{h h':Ai}{bi:Nat}{b b':BS}{F:Nat->Prop}{n o a:Nat}{t:Dr}{av:Ab}
def Rc:kK t.name av (CT t av):=⟨_,_,_,_,_,_,_,_,_,_,rfl⟩
def Fw(w:PB h bi b F)(g:Gz b (n+4) o a)(ht:t.Sm)(hv:BF t.As av):Gn h F 70 [Pt bi 0,.agg (CT t av)] (I (b.Li 1)) bi (b.Cr t):=by obtain⟨d,f,c,tt,G,w,hc,rfl⟩:=w;obtain⟨h',o',e,r,w',x⟩:=aBO (m:=n) w g.ok g.rm Rc hv ht.As ht.name;exact⟨h',_,r,⟨d,o',c,tt,e,w',by unfold BS.Cr;rw[H6];exact hc,rfl⟩,x⟩
def lF(w:PB h bi b F)(g:Gz b (n+4) o a)(ht:t.Sm)(hv:BF t.As av)(sp:Int):Gn h F 117 [Pt bi 0,.agg (CT t av),I sp] (I (b.Li sp)) bi (b.Co t.name t.As sp):=by obtain⟨d,f,c,tt,G,w,hc,rfl⟩:=w;obtain⟨h',o',e,r,w',x⟩:=aKS (m:=n) w g.ok g.rm Rc hv ht.As ht.name sp;exact⟨h',_,r,⟨d,o',c,tt,e,w',by rw[H6];exact hc,rfl⟩,x⟩
def Ļ(w:PB h bi b F)(g:Gz b (n+5) o a)(ht:t.Sm)(hv:BF t.As av):Gn h F 204 [Pt bi 0,.agg (CT t av)] (I (b.a.len+1)) bi (b.Eu t.name t.As):=by obtain⟨d,f,c,tt,G,w,hc,rfl⟩:=w;obtain⟨h',o',c',e,r,w',Wt,x⟩:=aPB (m:=n) w hc g.ok g.rm Rc hv ht.As ht.name;exact⟨h',_,r,⟨d,o',c',tt,e,w',Wt,rfl⟩,x⟩
def ZB(w:PB h bi b F)(g:Gz b (n+5) o a){r:Int}(hr: -2147483648<=r/\r<=2147483647):Gn h F 72 [Pt bi 0,.int .i32 r] (.tuple []) bi (b.Jk r):=by obtain⟨e,d,c,tt,G,w,hc,rfl⟩:=w;obtain⟨h',f,r,w',x⟩:=aPE (m:=n) w g.ok g.rm r hr;exact⟨h',_,r,⟨e,d,c,tt,f,w',hc,rfl⟩,x⟩
def M4(w:PB h bi b F)(g:Gz b (n+1) o a){s:Ah}(hs:s.length<=100000)(x:Int):Gn h F 62 [Pt bi 0,.str s,I x] (.tuple []) bi (b.DD s x):=by obtain⟨e,d,c,tt,G,w,hc,rfl⟩:=w;obtain⟨h',f,r,w',x⟩:=aPG (m:=n) w g.ok g.rm s hs x;exact⟨h',_,r,⟨e,d,c,tt,f,w',hc,rfl⟩,x⟩
def ZC(w:PB h bi b F)(g:Gz b (n+4) o a)(ht:t.Sm)(hv:BF t.As av)(s:Int):Gn h F 74 [Pt bi 0,.agg (CT t av),I s] (.tuple []) bi (b.Dj t.name t.As s):=by obtain⟨d,f,c,tt,G,w,hc,rfl⟩:=w;obtain⟨h',o',e,r,w',x⟩:=aPH (m:=n) w g.ok g.rm Rc hv ht.As ht.name s;exact⟨h',_,r,⟨d,o',c,tt,e,w',by show EH (b.Co t.name t.As 1).A3 c;rw[H6];exact hc,rfl⟩,x⟩
def J8(w:PB h bi b F)(g:Gz b n o a):Gn h F 202 [Pt bi 0] (.tuple []) bi b.B7:=by obtain⟨d,f,c,tt,G,w,hc,rfl⟩:=w;obtain⟨h',o',r,w',x⟩:=aPI w g.rm;exact⟨h',_,r,⟨d,o',c,tt,G,w',by have e:b.B7.A3=b.A3:=(by unfold BS.B7;split<;>rfl);rw[e];exact hc,rfl⟩,x⟩
def Db(w:PB h bi b F)(g:Gz b (n+4*a) o a):Gn h F 84 [Pt bi 0] (.tuple []) bi b.AM:=by obtain⟨d,f,c,tt,G,w,hc,rfl⟩:=w;obtain⟨h',o',c',e,r,w',Wt,x⟩:=aPR (m:=n) w hc g.ok (g.rm.le (by have:=g.A3;omega));exact⟨h',_,r,⟨d,o',c',tt,e,w',Wt,rfl⟩,x⟩
def ļ(w:PB h bi b F)(g:Gz b n o a)(nm:Ah):Gn h F 86 [Pt bi 0,.str nm] (.tuple []) bi (b.C1 nm):=by obtain⟨d,f,c,tt,G,w,hc,rfl⟩:=w;obtain⟨h',o',r,w',x⟩:=aK2 w g.rm nm;exact⟨h',_,r,⟨d,o',c,tt,G,w',by have e:(b.C1 nm).A3=b.A3:=(by unfold BS.C1;split;split<;>rfl;rfl);rw[e];exact hc,rfl⟩,x⟩
def aB7(w:PB h bi b F)(g:Gz b n o a):Gn h F 92 [Pt bi 0] (.tuple []) bi b.JR:=by obtain⟨e,d,c,tt,G,w,hc,rfl⟩:=w;obtain⟨h',r,w',x⟩:=aHc w g.rm;exact⟨h',_,r,⟨e,d,c,tt,G,w',hc,rfl⟩,x⟩
def mf(w:PB h bi b F)(g:Gz b (n+1000) o a)(ht:t.Sm)(hv:BF t.As av)(x:Int):Gn h F 209 [Pt bi 0,.agg (CT t av),I x] (.tuple []) bi (b.FJ t.As x):=by obtain⟨f,d,c,tt,G,w,hc,rfl⟩:=w;obtain⟨h',i,r,w',x⟩:=aPL (m:=n) w g.ok g.rm Rc hv ht.As x;exact⟨h',_,r,⟨f,d,c,tt,i,w',by have e:∀y,(b.FJ t.As y).A3=b.A3:=(λy=>by unfold BS.FJ;split<;>rfl);rw[e];exact hc,rfl⟩,x⟩
def aHv(w:PB h bi b F)(g:Gz b n o a):Gn h F 79 [Pt bi 0] (.tuple []) bi b.Dn:=by obtain⟨d,e,c,tt,G,w,hc,rfl⟩:=w;obtain⟨h',o',c',t',r,w',Wt,x⟩:=aPM w hc g.rm;exact⟨h',_,r,⟨d,o',c',t',G,w',Wt,rfl⟩,x⟩
def Ľ(w:PB h bi b F):Gn h F 82 [Pt bi 0] (.tuple []) bi {b with stop:=true}:=by obtain⟨e,d,c,tt,G,w,hc,rfl⟩:=w;obtain⟨h',r,w',x⟩:=aPP w;exact⟨h',_,r,⟨e,d,c,tt,G,w',hc,rfl⟩,x⟩
def ZD(w:PB h bi b F)(g:Gz b (n+8*(4*(o+8)+10)) o a)(nm:Ah):Gn h F 157 [Pt bi 0,.str nm] (.tuple []) bi (b.C7 nm):=by obtain⟨d,f,c,tt,G,w,hc,rfl⟩:=w;obtain⟨h',o',c',e,r,w',Wt,x⟩:=aQg (m:=n) w hc g.ok (g.rm.le (by have:=g.Au;omega)) nm;exact⟨h',_,r,⟨d,o',c',tt,e,w',Wt,rfl⟩,x⟩
def Qg(w:PB h bi b F)(g:Gz b n o a):Gn h F 76 [Pt bi 2] (.agg b.aEX.row) bi b.FB:=by obtain⟨d,f,c,tt,G,w,hc,rfl⟩:=w;obtain⟨h',o',r,w',x⟩:=aLa w g.rm;exact⟨h',_,r,⟨d,o',c,tt,G,w',by have e:b.FB.A3=b.A3:=(by unfold BS.FB;split<;>rfl);rw[e];exact hc,rfl⟩,x⟩
def ľ(w:PB h bi b F)(g:Gz b n o a):Gn h F 77 [Pt bi 3] (.tuple []) bi {b with A3:=b.A3++[Cn.zero]}:=by obtain⟨e,d,c,tt,G,w,hc,rfl⟩:=w;have pR:=g.rm.A3;obtain⟨fs,MM,WU⟩:=hc;obtain⟨u,r2,hu⟩:=f63 (h:=h) (id:=bi) (o:=3) (l:=fs) ⟨c,w.ud,WU⟩ (by rw[<-MM,Aw] at pR;omega);exact⟨_,_,r2,⟨e,d,u,tt,G,w.Ub (u:=u) (l:=b.A3++[Cn.zero]),⟨_,by rw[B3,MM];rfl,hu⟩,rfl⟩,Cz⟩
def mg(w:PB h bi b F)(g:Gz b n o a):∃r,Gn h F 90 [Pt bi 3] r bi {b with A3:=FF b.A3}:=by obtain⟨e,d,c,tt,G,w,hc,rfl⟩:=w;have pR:=g.rm.A3;obtain⟨fs,MM,WU⟩:=hc;obtain⟨u,r2,hu⟩:=f65 (h:=h) (id:=bi) (o:=3) (l:=fs) ⟨c,w.ud,WU⟩ (by rw[<-MM,Aw] at pR;omega);exact⟨_,_,_,r2,⟨e,d,u,tt,G,w.Ub (u:=u) (l:=FF b.A3),⟨_,by rw[ky,MM],hu⟩,rfl⟩,Cz⟩
def lG(w:PB h bi b F)(g:Gz b n o a){v:Ab}{ws:List Ah}(hw:IP ws v)(hn:ws.length<=1000000000):∃r,Gn h F 89 [Pt bi 2,v] r bi {b with Au:=D6 Dm (AH ws) b.Au}:=by obtain⟨d,e,c,tt,G,w,hc,rfl⟩:=w;have ho:=g.rm.Au;obtain⟨u,r2,hu⟩:=f66 w.sO Ac hw hn;exact⟨_,_,_,r2,⟨d,u,c,tt,G,w.PX hu,hc,rfl⟩,Cz⟩
def M5(w:PB h bi b F)(g:Gz b n o a)(s:Ah):∃r,Gn h F 165 [Pt bi 2,.str s] r bi {b with Au:=D6 (CL s) Dm b.Au}:=by obtain⟨d,e,c,tt,G,w,hc,rfl⟩:=w;have ho:=g.rm.Au;obtain⟨u,r2,hu⟩:=aG0 w.sO Ac s;exact⟨_,_,_,r2,⟨d,u,c,tt,G,w.PX hu,hc,rfl⟩,Cz⟩
def ZE(w:PB h bi b F)(g:Gz b n o a)(x:Int):∃r,Gn h F 127 [Pt bi 2,I x] r bi {b with Au:=Cg x b.Au}:=by obtain⟨d,e,c,tt,G,w,hc,rfl⟩:=w;have ho:=g.rm.Au;obtain⟨u,r2,hu⟩:=aBH w.sO Ac x;exact⟨_,_,_,r2,⟨d,u,c,tt,G,w.PX hu,hc,rfl⟩,Cz⟩
def aHw(w:PB h bi b F)(g:Gz b n o a)(i:Item):Gn h F 126 [Pt bi 2,.agg i.row] (.tuple []) bi {b with Au:=b.Au++[i]}:=by obtain⟨d,e,c,tt,G,w,hc,rfl⟩:=w;have ho:=g.rm.Au;obtain⟨u,r2,hu⟩:=f95 w.sO Ac i;exact⟨_,_,r2,⟨d,u,c,tt,G,w.PX hu,hc,rfl⟩,Cz⟩
def PB.sA(w:PB h bi b F):r_ h (Pt bi 2) b.Au:=by obtain⟨e,d,c,tt,G,w,hc,rfl⟩:=w;exact w.sA
def PB.Na(w:PB h bi b F):∃x,Bp h none (Pt bi 0)=some (Pt x 0):=by obtain⟨d,e,c,tt,G,w,hc,rfl⟩:=w;exact⟨d,w.l0⟩
def PB.Cj(w:PB h bi b F):Bp h none (Pt bi 1)=some (I b.BM)/\Bp h none (Pt bi 4)=some (I b.mode)/\Bp h none (Pt bi 5)=some (I b.IV)/\Bp h none (Pt bi 7)=some (I b.head)/\Bp h none (Pt bi 8)=some (I b.Ha)/\Bp h none (Pt bi 14)=some (.bool b.fs)/\Bp h none (Pt bi 18)=some (I b.sw)/\Bp h none (Pt bi 19)=some (.bool b.stop):=by obtain⟨e,d,c,tt,G,w,hc,rfl⟩:=w;exact⟨w.ld 1,w.ld 4,w.ld 5,w.ld 7,w.ld 8,w.ld 14,w.ld 18,w.ld 19⟩
def PB.ltm(w:PB h bi b F):∃v,Bp h none (Pt bi 6)=some v/\IY b.tm v:=by obtain⟨e,d,c,tt,G,w,hc,rfl⟩:=w;exact⟨tt,w.l6,w.t⟩
def Ul(w:PB h bi b F)(g:Gz b n o a)(s:Int){v:Ab}{ws:List Ah}(hv:IP ws v)(hw:ws.length<=1000000000):CD cx 217 [Pt bi 2,I s,v] h (.bool (b.N7 s (AH ws))) h:=
 aKb w.sA (by have:=g.rm.Au;omega) s hv hw
def qV(w:PB h bi b F)(g:Gz b n o a)(s x:Int):CD cx 218 [Pt bi 2,I s,I x] h (.bool (b.N7 s (Bt x))) h:=
 aKc w.sA (by have:=g.rm.Au;omega) s x
def aHx(w:PB h bi b F)(g:Gz b n o a)(s:Ah):CD cx 124 [Pt bi 2,.str s] h (I (AD (AH [s]) b.Au)) h:=
 aBF w.sA (by have:=g.rm.Au;omega) s
def aB8(w:PB h bi b F)(i:Int):CD cx 163 [Pt bi 2,I i] h (.agg (El b.Au i).row) h:=WD w.sA i
def ZF(w:PB h bi b F):CD cx 121 [Pt bi 2] h (I (b.Au.length:Int)) h:=Vg w.sA
def qW(w:PB h bi b F)(g:Gz b n o a):CD cx 180 [Pt bi 0] h (.agg (DP b.Au).row) h:=by obtain⟨e,d,c,tt,G,w,hc,rfl⟩:=w;exact aG8 w g.rm
def Wr(h:Ai)(F:Nat->Prop)(bi k:Nat)(v:Ab)(b':BS):Prop:=Dd h 1 (Pt bi k) v=some (put h bi k v)/\PB (put h bi k v) bi b' F/\FC h F (put h bi k v) F
def GU(w:PB h bi b F)(v:Int):Wr h F bi 4 (I v) {b with mode:=v}:=by obtain⟨e,d,c,tt,G,w,hc,rfl⟩:=w;exact⟨w.st (k:=4) rfl rfl,⟨e,d,c,tt,G,w.put rfl rfl w.o w.t,hc,rfl⟩,Cz⟩
def Ŀ(w:PB h bi b F)(v:Int):Wr h F bi 7 (I v) {b with head:=v}:=by obtain⟨e,d,c,tt,G,w,hc,rfl⟩:=w;exact⟨w.st (k:=7) rfl rfl,⟨e,d,c,tt,G,w.put rfl rfl w.o w.t,hc,rfl⟩,Cz⟩
def lH(w:PB h bi b F)(v:Int):Wr h F bi 8 (I v) {b with Ha:=v}:=by obtain⟨e,d,c,tt,G,w,hc,rfl⟩:=w;exact⟨w.st (k:=8) rfl rfl,⟨e,d,c,tt,G,w.put rfl rfl w.o w.t,hc,rfl⟩,Cz⟩
def Mo(w:PB h bi b F)(v:Bool):Wr h F bi 14 (.bool v) {b with fs:=v}:=by obtain⟨e,d,c,tt,G,w,hc,rfl⟩:=w;exact⟨w.st (k:=14) rfl rfl,⟨e,d,c,tt,G,w.put rfl rfl w.o w.t,hc,rfl⟩,Cz⟩
def ŀ(w:PB h bi b F)(v:Bool):Wr h F bi 17 (.bool v) {b with skip:=v}:=by obtain⟨e,d,c,tt,G,w,hc,rfl⟩:=w;exact⟨w.st (k:=17) rfl rfl,⟨e,d,c,tt,G,w.put rfl rfl w.o w.t,hc,rfl⟩,Cz⟩
def aQs(w:PB h bi b F)(v:Int):Wr h F bi 18 (I v) {b with sw:=v}:=by obtain⟨e,d,c,tt,G,w,hc,rfl⟩:=w;exact⟨w.st (k:=18) rfl rfl,⟨e,d,c,tt,G,w.put rfl rfl w.o w.t,hc,rfl⟩,Cz⟩
def aLC(w:PB h bi b F){v:Ab}{l:List Int}(hv:IY l v):Wr h F bi 6 v {b with tm:=l}:=by obtain⟨e,d,c,tt,G,w,hc,rfl⟩:=w;exact⟨w.st (k:=6) (v0:=tt) rfl (Bx.cells hv),⟨e,d,c,v,G,w.aHe hv,hc,rfl⟩,Cz⟩
end
def O5(c:UInt8):Bool:=decide ((9<=c.toNat/\c.toNat<=13)\/c.toNat=32)
def wf:Ah->Ah->List Ah
 |cur,[]=>if cur=[] then[] else[cur]
 |cur,c::r=>if O5 c then(if cur=[] then wf [] r else cur::wf [] r) else wf (cur++[c]) r
def lI:Bool->Ah->Nat
 |_,[]=>0
 |w,c::r=>(if w&& !O5 c then 1 else 0)+lI (O5 c) r
def mh(b:Bool):Int:=if b then 1 else 0
def Vo:∀{s cur:Ah},(wf cur s).length=(if cur=[] then 0 else 1)+lI (decide (cur=[])) s
 |[],cur=>by unfold wf lI;split<;>simp_all
 |c::r,cur=>by
  unfold wf lI;by_cases hc:O5 c=true
  .by_cases h0:cur=[];.simp[hc,h0,Vo (s:=r) (cur:=[])]
   .simp[hc,h0,Vo (s:=r) (cur:=[])];omega
  .have Wt:O5 c=false:=by simpa using hc
   by_cases h0:cur=[];.simp[Wt,h0,Vo (s:=r) (cur:=[c])]
   .simp[Wt,h0,Vo (s:=r) (cur:=cur++[c])]
def mi:∀{s cur:Ah},(wf cur s).length<=s.length+1
 |[],cur=>by unfold wf;split<;>simp
 |c::r,cur=>by
  unfold wf;have h1:=mi (s:=r) (cur:=[]);have h2:=mi (s:=r) (cur:=cur++[c]);split;.split<;>simp only[AJ]<;>omega
  .simp only[AJ];omega
def mj{c:UInt8}(k:Option Nat)(hk:k=none){h:Ai}:∃v,AE (.Vv 256 1) [.Cd HE,.int .u8 (c.toNat:Int)]=some v/\Bp h k v=some (.int .u8 (mh (O5 c))):=by
 subst hk;have key:∀n:Nat,n<256->HE[n]?=some (.int .u8 (mh (decide ((9<=n/\n<=13)\/n=32)))):=by intro n hn;have h1:∀n,n<256->OK[n]?=some (mh (decide ((9<=n/\n<=13)\/n=32))):=Ed;rw[HE,Dt,h1 n hn];rfl
 have hc:=c.toNat_lt;have hi:M7 (c.toNat:Int) 256=some c.toNat:=by unfold M7;rw[Ae Ac];rfl
 refine⟨.Cd (HE.drop (c.toNat*1)),by simp[AE,hi,XE],?_⟩;rw[SG,Jh,CE,HM,BB,key _ hc];rfl
def aHy{s c:Nat}(hs:s<128)(hc:c<128):∃n:Nat,n<128/\AE (.int .or) [.int .u8 (s:Int),.int .u8 (c:Int)]=some (.int .u8 (n:Int)):=by
 have key:∀s:Nat,s<128->∀c:Nat,c<128->(match AE (.int .or) [.int .u8 (s:Int),.int .u8 (c:Int)] with|some (.int .u8 n)=>decide (0<=n/\n<128)|_=>false)=true:=Ed;have h1:=key s hs c hc;split at h1;.rename_i n hv;have:=CC h1;exact⟨n.toNat,Ac,by rw[hv,I7 this.1]⟩
 .cases h1
def aHz(w i:Bool):∃v,AE (.un .xor) [I (mh i)]=some v/\AE (.int .and) [I (mh w),v]=some (I (if w&& !i then 1 else 0)):=by cases w<;>cases i<;>exact⟨_,rfl,rfl⟩
def aHA(i:Bool):IntKind.i64.wrap (mh i)=mh i:=by cases i<;>rfl
def ml{U:Type}(l:List U)(x y:U)(r:List U){k:Nat}(hk:k=l.length):(l++y::r).take k++[x]++(l++y::r).drop (k+1)=l++x::r:=by subst hk;simp
def aLD(s:Ah)(hs:s.length<=1000000)(ha:∀c∈s,c.toNat<128)(h:Ai):CD cx 240 [.str s] h (.sl 1 ((wf [] s).map Cw)) (h++[.Ef]):=by
 have Ŵ:AY=140737488355328:=rfl;have O:=mi (s:=s) (cur:=[]);obtain⟨N,hNe⟩:∃N,N=(wf [] s).length:=⟨_,rfl⟩;rw[Ag,ir,aGp];refine Gc (i:=0) (λz:Nat×Bool×Nat×Nat=>[I (z.1:Int),I (mh z.2.1),.int .u8 (z.2.2.1:Int),I (z.2.2.2:Int)]) (λz h1=>h1=h/\z.2.2.2<=s.length/\z.2.2.1<128/\z.1+lI z.2.1 (s.drop z.2.2.2)=lI true s) (λz=>s.length-z.2.2.2) (λz h1=>h1=h/\z.2.2.1<128/\z.1=N) (0,true,0,0) rfl ⟨rfl,Bn _,Az,AB⟩ ?_ ?_
 .rintro⟨n,w,bits,i⟩ h1 ⟨rfl,hi,hb,hn⟩;simp only at hi hb hn;rcases Bm i s.length with hlt|JA
  .obtain⟨bits',Su,y⟩:=aHy hb (ha _ (AG hlt));obtain⟨v,J,H⟩:=mj (c:=s[i]) none rfl (h:=h1);obtain⟨v2,p,d⟩:=aHz w (O5 s[i]);have M:lI true s<=s.length+1:=by have:=Vo (s:=s) (cur:=[]);simp at this;omega
   rw[AA hlt,lI] at hn;have u:=RE (a:=(n:Int)) (b:=if w&& !O5 s[i] then 1 else 0) (by split<;>omega) (by split<;>omega);have t:((n:Int)+if(w&& !O5 s[i])=true then 1 else 0)=((n+if(w&& !O5 s[i])=true then 1 else 0:Nat):Int):=by split<;>simp
   simp only[abS,(Ac:(i:Int)<(s.length:Int)),Ji hlt,y,J,H,Rz,aHA,p,d,u,t,DB (Ac:i<9223372036854775807)];exact .next (_,O5 s[i],bits',i+1) rfl ⟨rfl,hlt,Su,FY⟩ FY
  .simp only[abS,(Ac:¬(i:Int)<(s.length:Int))];refine .If (n,w,bits,i) rfl ⟨rfl,hb,?_⟩;rw[AX JA,lI] at hn;have:=Vo (s:=s) (cur:=[]);simp at this;simp only;omega
 rintro⟨n,w,bits,i⟩ h1 ⟨rfl,hb,hn⟩;simp only at hb hn;subst hn;have y:XG h1 1 16 [S []] (I (n:Int)) (I (n:Int))=some (h1++[.cells (List.replicate n [S []]).flatten],.Du h1.length 0 n 1):=by simp only[XG];rw[Ae ⟨Ac,Ac,EE,rfl⟩];simp
 have J:(List.replicate n [S []]).flatten=List.replicate n (S []):=by
  clear y hNe O;induction n with
  |zero=>rfl
  |succ n ih=>rw[LP,CS,ih];rfl
 rw[J] at y;have H:¬(128:Int)<=(bits:Int):=Ac;simp only[abS,H];refine yr y ?_;refine Gc (i:=2) (λi:Nat=>[I (i:Int)]) (λi h2=>h2=h1++[.cells (List.replicate n (S []))]/\i<=s.length/\wf [] s=wf [] (s.drop i)) (λi=>s.length-i) (λi h2=>h2=h1++[.cells (List.replicate n (S []))]/\i<=s.length/\wf [] s=wf [] (s.drop i)/\∀hi:i<s.length,O5 s[i]=false) 0 rfl ⟨rfl,Bn _,rfl⟩ ?_ ?_
 .rintro i h2 ⟨rfl,hi,hw⟩;rcases Bm i s.length with hlt|JA
  .obtain⟨v,p,d⟩:=mj (c:=s[i]) none rfl (h:=h1++[.cells (List.replicate n (S []))]);cases hsp:O5 s[i] with
   |true=>rw[hsp] at d;simp only[abS,(Ac:(i:Int)<(s.length:Int)),Ji hlt,p,d,mh,↓reduceIte,(Az:(1:Int)≠0),CP,DB (Ac:i<9223372036854775807)];rw[AA hlt,wf,hsp] at hw;exact .next (i+1) rfl ⟨rfl,hlt,by simpa using hw⟩ Ac
   |false=>rw[hsp] at d;simp only[abS,(Ac:(i:Int)<(s.length:Int)),Ji hlt,p,d,mh,B5,↓reduceIte,CP];exact .If i rfl ⟨rfl,hi,hw,λ_=>hsp⟩
  .simp only[abS,(Ac:¬(i:Int)<(s.length:Int))];exact .If i rfl ⟨rfl,hi,hw,λh=>absurd h Ac⟩
 rintro i0 h2 ⟨rfl,D,C,xh⟩;simp only[Cy];refine Gc (i:=4) (λz:List Ah×Nat×Nat=>[I (z.1.length:Int),I (z.2.1:Int),I (z.2.2:Int)]) (λz h2=>h2=h1++[.cells (z.1.map Ab.str++List.replicate (n-z.1.length) (S []))]/\z.2.1<=z.2.2/\z.2.2<=s.length/\z.1++wf ((s.take z.2.2).drop z.2.1) (s.drop z.2.2)=wf [] s/\(z.2.1=z.2.2->∀hi:z.2.2<s.length,O5 s[z.2.2]=false)) (λz=>s.length-z.2.2)
  (λz h2=>h2=h1++[.cells (z.1.map Ab.str++List.replicate (n-z.1.length) (S []))]/\z.2.1<=s.length/\z.1++wf (s.drop z.2.1) []=wf [] s) ([],i0,i0) rfl ⟨AB,Ad _,D,by simp[C,aNe],λ_=>xh⟩ ?_ ?_
 .rintro⟨dn,f,i⟩ h2 ⟨rfl,hf,hi,hw,hz⟩;simp only at hf hi hw hz;have xk:dn.length<=n:=by rw[hNe,<-hw,An];omega
  rcases Bm i s.length with hlt|JA
  .obtain⟨v,p,d⟩:=mj (c:=s[i]) none rfl (h:=h1++[.cells (dn.map Ab.str++List.replicate (n-dn.length) (S []))]);rw[AA hlt] at hw;cases hsp:O5 s[i] with
   |false=>
    rw[hsp] at d;simp only[abS,(Ac:(i:Int)<(s.length:Int)),Ji hlt,p,d,mh,B5,↓reduceIte,DB (Ac:i<9223372036854775807)];rw[wf,hsp] at hw;refine .next (dn,f,i+1) rfl ⟨rfl,FY,hlt,?_,λe=>by simp only at e;omega⟩ FY
    simp only
    rw[Î hf hlt];simpa using hw
   |true=>
    rw[hsp] at d;have aWd:f<i:=by
     rcases Bm f i with h|h
     .exact h
     .have:=hz Ac hlt;rw[hsp] at this;cases this
    have aQt:(s.take i).drop f≠[]:=by intro e;have:=B6 List.length e;simp at this;omega
    rw[wf,hsp] at hw;simp only[BN,aQt,DK] at hw;have m:dn.length<n:=by rw[hNe,<-hw];simp
    have u:AE (.Hj 1) [.Du h1.length 0 n 1,I (dn.length:Int)]=some (Pt h1.length dn.length):=by have:=JH (id:=h1.length) (z:=1) (n:=n) (k:= .i64) m;rwa [HM] at this
    have hcl:(dn.map Ab.str++List.replicate (n-dn.length) (S [])).length=n:=EE;have t:Dd (h1++[.cells (dn.map Ab.str++List.replicate (n-dn.length) (S []))]) 1 (Pt h1.length dn.length) (.str ((s.take i).drop f))=some (h1++[.cells ((dn++[(s.take i).drop f]).map Ab.str++List.replicate (n-(dn++[(s.take i).drop f]).length) (S []))]):=by have h3:(h1++[GX.cells (dn.map Ab.str++List.replicate (n-dn.length) (S []))])[h1.length]?=some (.cells (dn.map Ab.str++List.replicate (n-dn.length) (S []))):=AB;simp only[Dd,h3,RB,AQ];rw[Ae ⟨trivial,by rw[hcl];omega⟩,Ce _ _ (Ad _),Fh];have F:n-dn.length=(n-(dn.length+1))+1:=Ac;have E:(dn.map Ab.str).length=dn.length:=Aw ..;simp only[mO,B3,AV,CM,An,AQ];rw[F,LP,ml _ _ _ _ E.symm];simp
    simp only[abS,(Ac:(i:Int)<(s.length:Int)),Ji hlt,p,d,mh,↓reduceIte,(Az:¬(1:Int)=0),uU (z:=0) (k:= .i64) (l:= .i64) (Ac:f<=i) hi,u,t,DB (Ac:dn.length<9223372036854775807),DB (Ac:i<9223372036854775807)];refine Gc (i:=6) (λj:Nat=>[I (j:Int)]) (λj h2=>h2=h1++[.cells ((dn++[(s.take i).drop f]).map Ab.str++List.replicate (n-(dn++[(s.take i).drop f]).length) (S []))]/\i<j/\j<=s.length/\wf [] (s.drop (i+1))=wf [] (s.drop j)) (λj=>s.length-j) (λj h2=>h2=h1++[.cells ((dn++[(s.take i).drop f]).map Ab.str++List.replicate (n-(dn++[(s.take i).drop f]).length) (S []))]/\i<j/\j<=s.length/\wf [] (s.drop (i+1))=wf [] (s.drop j)/\∀hj:j<s.length,O5 s[j]=false) (i+1) rfl ⟨rfl,Ac,hlt,rfl⟩ ?_ ?_
    .rintro j h2 ⟨rfl,o,hj,zH⟩;rcases Bm j s.length with sH|L
     .obtain⟨v,K,A⟩:=mj (c:=s[j]) none rfl (h:=h1++[.cells ((dn++[(s.take i).drop f]).map Ab.str++List.replicate (n-(dn++[(s.take i).drop f]).length) (S []))]);cases g:O5 s[j] with
      |true=>rw[g] at A;simp only[abS,(Ac:(j:Int)<(s.length:Int)),Ji sH,K,A,mh,↓reduceIte,(Az:(1:Int)≠0),CP,DB (Ac:j<9223372036854775807)];rw[AA sH,wf,g] at zH;exact .next (j+1) rfl ⟨rfl,Ac,sH,by simpa using zH⟩ Ac
      |false=>rw[g] at A;simp only[abS,(Ac:(j:Int)<(s.length:Int)),Ji sH,K,A,mh,B5,↓reduceIte,CP];exact .If j rfl ⟨rfl,o,hj,zH,λ_=>g⟩
     .simp only[abS,(Ac:¬(j:Int)<(s.length:Int))];exact .If j rfl ⟨rfl,o,hj,zH,λh=>absurd h Ac⟩
    .rintro j h2 ⟨rfl,o,hj,zH,B⟩;simp only[Cy,↓reduceIte];refine .next (dn++[(s.take i).drop f],j,j) AB ⟨rfl,Ad _,hj,?_,λ_=>B⟩ FY
     simp only[aNe];rw[<-zH,A7];exact hw
  .simp only[abS,(Ac:¬(i:Int)<(s.length:Int))];have hie:i=s.length:=Ac;refine .If (dn,f,i) rfl ⟨rfl,FY,?_⟩;simp only
   rw[AX JA,hie,Bl] at hw;exact hw
 .rintro⟨dn,f,i⟩ h2 ⟨rfl,hf,hw⟩;simp only at hf hw;have fz:∀l:List Ah,l=wf [] s->L6 (h1++[.cells (l.map Ab.str)]) (.Du h1.length 0 n 1)=some (h1++[.Ef],.sl 1 ((wf [] s).map Cw)):=by
   rintro l rfl;have hr:∀r∈(wf [] s).map Cw,r.length=1:=λr hr=>by obtain⟨w,_,rfl⟩:=A5.1 hr;rfl
   have P:((wf [] s).map Cw).flatten=(wf [] s).map Ab.str:=by
    generalize wf [] s=q;induction q with
    |nil=>rfl
    |cons x q ih=>simp[Cw,ih]
   have:=OP (h:=h1++[.cells ((wf [] s).map Ab.str)]) (id:=h1.length) hr (by rw[P];simp);rw[Aw,<-hNe] at this;rw[this,Ce _ _ (Ad _),Fh];rfl
  rcases Bm f s.length with hlt|JA
  .have hne:s.drop f≠[]:=by intro e;have:=B6 List.length e;simp at this;omega
   rw[wf,Aa hne] at hw;have m:n=dn.length+1:=by rw[hNe,<-hw];simp
   have u:AE (.Hj 1) [.Du h1.length 0 n 1,I (dn.length:Int)]=some (Pt h1.length dn.length):=by have:=JH (id:=h1.length) (z:=1) (n:=n) (k:= .i64) (Ac:dn.length<n);rwa [HM] at this
   have t:Dd (h1++[.cells (dn.map Ab.str++List.replicate (n-dn.length) (S []))]) 1 (Pt h1.length dn.length) (.str (s.drop f))=some (h1++[.cells ((dn++[s.drop f]).map Ab.str)]):=by have h3:(h1++[GX.cells (dn.map Ab.str++List.replicate (n-dn.length) (S []))])[h1.length]?=some (.cells (dn.map Ab.str++List.replicate (n-dn.length) (S []))):=AB;have F:n-dn.length=1:=Ac;have E:(dn.map Ab.str).length=dn.length:=Aw ..;simp only[Dd,h3,RB,AQ];rw[Ae ⟨trivial,EE⟩,Ce _ _ (Ad _),Fh,F,show List.replicate 1 (S [])=S []::[] from rfl,ml _ _ _ _ E.symm];simp
   simp only[abS,(Ac:(f:Int)<(s.length:Int)),so (z:=0) (k:= .i64) (Ac:f<=s.length),u,t,fz _ hw]
  .rw[AX JA,wf] at hw;simp only[BN,A8] at hw;have m:n-dn.length=0:=by rw[hNe,<-hw];omega
   have G:=fz _ hw;rw[m,List.replicate_zero,A8];simp only[abS,(Ac:¬(f:Int)<(s.length:Int)),G]
section
variable{h h':Ai}{bi:Nat}{b b':BS}{F:Nat->Prop}{n o a:Nat}{t:Dr}{av:Ab}
def aLE(lo hi r:Int)(h:Ai):CD cx 233 [.int .i32 r,.Cd [.int .i32 lo],.Cd [.int .i32 hi]] h (.bool (decide (lo<=r/\r<=hi))) h:=by rw[Ag,jS,aBt];simp only[Cy];refine⟨λh1=>by simp[h1],λh1=>by simp[h1]⟩
def V9(p:Int×Int):List Ab:=[.func (.func 233) [] [.Cd [.int .i32 p.1],.Cd [.int .i32 p.2]]]
def aLF{L:List (Int×Int)}(g:L.length<=1000)(r:Int)(h:Ai):CD cx 232 [.int .i32 r,.Cd [.sl 1 (L.map V9)]] h (.bool (L.any λp=>decide (p.1<=r/\r<=p.2))) h:=by
 have hv:Bx 1 (L.map V9) (.sl 1 (L.map V9)):= .mk;have e:=Bx.GN hv;rw[Ag,g_,aGl];simp only[Cy,e];refine Cv (λn:Nat=>[ff,I (n:Int)]) (λn h1=>n<=L.length/\h1=h/\L.any (λp=>decide (p.1<=r/\r<=p.2))=(L.drop n).any λp=>decide (p.1<=r/\r<=p.2)) (λn=>L.length-n) 0 rfl ⟨Bn _,rfl,rfl⟩ ?_;rintro n h1 ⟨hn,rfl,ha⟩;rcases Bm n L.length with hlt|JA
 .have c:=Bx.DN (k:= .i64) hv hlt;have f:∀x y:Int,CR (.func (.func 233) [] [.Cd [.int .i32 x],.Cd [.int .i32 y]]) [.int .i32 r]=some (233,[.int .i32 r,.Cd [.int .i32 x],.Cd [.int .i32 y]]):=λ_ _=>rfl;have d:=aLE L[n].1 L[n].2 r h1;rw[AA hlt,Tc] at ha;rw[V9] at c;simp only[abS,(Ac:(n:Int)<(L.length:Int)),c,f,d.Af,DB (Ac:n<9223372036854775807)];refine⟨λh2=>?_,λh2=>?_⟩;.rw[ha];simp[h2]
  .rw[Ap h2,Kg] at ha;exact By.next (n+1) rfl ⟨hlt,rfl,ha⟩ Ac
 .rw[AX JA] at ha;simp only[abS,(Ac:¬(n:Int)<(L.length:Int)),ha,sC]
def aQv(r:Int):NL cx 101 [.int .i32 r] (.bool (decide (Qr r))):=by
 have d:∀(lo hi:Int) (h:Ai),CD cx 179 [.int .i32 lo,.int .i32 hi] h (.func (.func 233) [] [.Cd [.int .i32 lo],.Cd [.int .i32 hi]]) h:=λlo hi h=>by rw[Ag,Xd,Ċ];simp only[Cy]
 have g:∀(v:Ab) (h:Ai),v.cells=[v]->CD cx 178 [v] h (.func (.func 232) [] [.Cd [v]]) h:=λv h hv=>by rw[Ag,jL,aBm];simp only[Cy,hv]
 have e:=aLF (L:=[(9,10),(12,13),(32,32)]) Az r [];have c:AE (.Cb 1) [.func (.func 233) [] [.Cd [.int .i32 9],.Cd [.int .i32 10]],.func (.func 233) [] [.Cd [.int .i32 12],.Cd [.int .i32 13]],.func (.func 233) [] [.Cd [.int .i32 32],.Cd [.int .i32 32]]]=some (.sl 1 ([((9:Int),(10:Int)),(12,13),(32,32)].map V9)):=rfl;have f:∀v:Ab,CR (.func (.func 232) [] [v]) [.int .i32 r]=some (232,[.int .i32 r,v]):=λ_=>rfl;have r2:=g (.sl 1 ([((9:Int),(10:Int)),(12,13),(32,32)].map V9)) [] rfl;have e0:decide (Qr r)=([((9:Int),(10:Int)),(12,13),(32,32)].any λp=>decide (p.1<=r/\r<=p.2)):=by
  have c:Qr r↔((9<=r/\r<=10)\/(12<=r/\r<=13)\/(32<=r/\r<=32)):=by unfold Qr;omega
  simp only[Tc,sC,S8,<-Bool.decide_or,Fy];exact c
 rw[e0,RU,iU,aA8];simp only[Cy,(d 9 10 []).Af,(d 12 13 []).Af,(d 32 32 []).Af,c,r2.Af,f,e.Af]
structure Lj(l:Ah)(ws:List Ah):Prop where
 len:l.length<=1000000
 asc:∀c∈l,c.toNat<128
 wf:wf [] l=ws
def N8{l:Ah}{ws:List Ah}(h:(decide (l.length<=1000000)&&l.all (λc=>decide (c.toNat<128))&&decide (wf [] l=ws))=true):Lj l ws:=by simp only[Bg,CF,Eg] at h;exact⟨h.1.1,h.1.2,h.2⟩
def Lj.few{l:Ah}{ws:List Ah}(w:Lj l ws):ws.length<=1000001:=by have:=mi (s:=l) (cur:=[]);have:=w.len;rw[<-w.wf];omega
def Ł{l:Ah}{ws:List Ah}(w:Lj l ws)(h:Ai):CD cx 191 [.str l] h (.sl 1 (ws.map Cw)) (h++[.Ef]):=by have c:=aLD l w.len w.asc h;rw[w.wf] at c;rw[Ag,d_,aFU];simp only[Cy,c.Af]
def wV{l:Ah}{ws:List Ah}(w:Lj l ws)(s:Ah):NL cx 116 [.str s,.str l] (.bool (decide (s∈ws))):=by have c:CD cx 191 _ [] _ [.Ef]:=Ł w [];have r2:=aBE (Dl (ws:=ws)) (by have:=w.few;omega) s [GX.Ef];rw[RU,iY,aBc];simp only[Cy,c.Af,r2.Af]
def GB{l:Ah}{ws:List Ah}(w:Lj l ws)(t:Dr)(av:Ab)(h:Ai):CD cx 69 [.agg (CT t av),.str l] h (.bool (decide (t.st ws))) h:=by
 rw[Ag,ô,t69];simp only[Cy,(wV w t.name).Bz rfl rfl];refine⟨λh1=>?_,λh1=>?_⟩;.congr 2;unfold Dr.st;simp[h1]
 .unfold Dr.st;simp[h1]
def bG{l:Ah}{ws:List Ah}(w:Lj l ws)(t:Dr)(av:Ab)(h:Ai):CD cx 75 [.agg (CT t av),.str l] h (.bool (decide (t.en ws))) h:=by
 rw[Ag,ú,t75];simp only[Cy,(wV w t.name).Bz rfl rfl];refine⟨λh1=>?_,λh1=>?_⟩;.congr 2;unfold Dr.en;simp[h1]
 .unfold Dr.en;simp[h1]
def bH{l:Ah}{ws:List Ah}(w:Lj l ws)(t:Dr)(av:Ab)(h:Ai):CD cx 68 [.agg (CT t av),.str l] h (.bool (decide (t.bD ws))) h:=by
 rw[Ag,ó,t68];simp only[Cy,(wV w t.name).Bz rfl rfl];refine⟨λh1=>?_,λh1=>?_⟩;.congr 2;unfold Dr.bD;simp[h1]
 .unfold Dr.bD;simp[h1]
def Um(t:Dr)(av:Ab)(h:Ai):CD cx 61 [.agg (CT t av)] h (.bool (decide t.E8)) h:=by
 rw[Ag,ï,t61];simp only[Cy,(aQv t.r).Bz rfl rfl];refine⟨λh1=>?_,λh1=>?_⟩;.congr 2;unfold Dr.E8;simp[h1]
 .unfold Dr.E8;simp[h1]
def KJ(w:PB h bi b F)(t:Dr)(av:Ab):CD cx 39 [Pt bi 0,.agg (CT t av)] h (.bool (decide t.ok)) h:=by
 obtain⟨x,l0⟩:=w.Na;rw[Ag,í,t39];simp only[abS,l0];refine⟨λh1=>?_,λh1=>?_⟩;.congr 2;unfold Dr.ok;simp[h1]
 .unfold Dr.ok;simp[h1]
def ł(nm:Ah)(h:Ai):CD cx 71 [.str nm] h (.agg (CT (Gj nm) .slnil)) h:=by rw[Ag,ö,t71];simp only[abS,Nat.reduceLeDiff,↓reduceIte,Cl,Gj]
def wW(w:PB h bi b F)(m:Int):Gn h F 64 [Pt bi 0,I m] tt bi (b.again m).1:=by obtain⟨d,w1,c⟩:=GU w m;refine⟨_,_,?_,w1,c⟩;rw[Ag,vY,t64];simp only[Cy,d]
def S2(w:PB h bi b F)(g:Gz b n o a):CD cx 88 [Pt bi 0] h (.bool (decide b.Ox)) h:=by rw[Ag,ă,t88];simp only[Cy,(aHx w g AW).Af];rfl
def wX(w:PB h bi b F)(g:Gz b (n+4) o a)(ht:t.Sm)(hv:BF t.As av):Gn h F 73 [Pt bi 0,.agg (CT t av)] (.tuple []) bi (b.GR t):=by obtain⟨h1,j,f,w1,d⟩:=Fw w g ht hv;obtain⟨h2,i,r2,e,c⟩:=Qg w1 (g.Cr ht);refine⟨h2,i,?_,e,d.trans c⟩;rw[Ag,ø,t73];simp only[Cy,f.Af,r2.Af]
end
def lJ:Lj aYz eHB:=N8 Ed
def qX:Lj aYv lq:=N8 Ed
def eV:Lj aYH wQ:=N8 Ed
def Ń:Lj aZd eNo:=N8 Ed
def qY:Lj aYj V6:=N8 Ed
def ń:Lj aYZ sNS:=N8 Ed
def mn:Lj aX8 ĵ:=N8 Ed
def Ņ:Lj aY3 sHN:=N8 Ed
def RP:Lj aXN Ge:=N8 Ed
def ņ:Lj aYf sT1:=N8 Ed
def Ň:Lj [116,100,32,116,104] sTd:=N8 Ed
def J9:Lj aXM [aXM]:=N8 Ed
def Mp:Lj aXR [aXR]:=N8 Ed
def eW:Lj aX7 [aX7]:=N8 Ed
def ZG:Lj aYq [aYq]:=N8 Ed
def MZ:Lj aXY [aXY]:=N8 Ed
def qZ:Lj aXS [aXS]:=N8 Ed
def Un:Lj aXV [aXV]:=N8 Ed
def mo:Lj aZe [aZe]:=N8 Ed
def ň:Lj [116,114] [[116,114]]:=N8 Ed
def Hu:Lj aXP [aXP]:=N8 Ed
section
variable{h h':Ai}{bi:Nat}{b b':BS}{F:Nat->Prop}{n o a:Nat}{t:Dr}{av:Ab}
def aQx(w:PB h bi b F)(g:Gz b (n+5) o a)(ht:t.Sm)(hv:BF t.As av):Gn h F 46 [Pt bi 0,.agg (CT t av)] (.bool (b.DY t).2) bi (b.DY t).1:=by
 have Cj:=w.Cj;unfold BS.DY;by_cases u:¬t.ok;.rw[Ae u];have c:=KJ w t av;rw[Ap u] at c;refine⟨_,_,?_,w,.refl⟩;rw[Ag,Q1,t46];simp only[abS,↓reduceIte,c.Af]
 rw[Aa u];have c:=KJ w t av;rw[Ak (EZ.1 u)] at c;by_cases e:t.k=1;.rw[Ae e];refine⟨_,_,?_,w,.refl⟩;rw[Ag,Q1,t46];simp only[abS,↓reduceIte,c.Af,BI e]
 rw[Aa e];by_cases r:t.E8;.rw[Ae r];have d:=Um t av h;rw[Ak r] at d;refine⟨_,_,?_,w,.refl⟩;rw[Ag,Q1,t46];simp only[abS,↓reduceIte,c.Af,d.Af,e]
 rw[Aa r];have d:=Um t av h;rw[Ap r] at d;by_cases q:t.bD eHB;.rw[Ae q];have f:=bH lJ t av h;rw[Ak q] at f;refine⟨_,_,?_,w,.refl⟩;rw[Ag,Q1,t46];simp only[abS,↓reduceIte,c.Af,d.Af,f.Af,e]
 rw[Aa q];have f:=bH lJ t av h;rw[Ap q] at f;by_cases m:t.k=4;.rw[Ae m];obtain⟨h1,y,i,w1,j⟩:=M4 (s:=t.data) w (g.dn (n':=n+1) Ac) (by have:=ht.data;omega) b.BM;refine⟨_,_,?_,w1,j⟩;rw[Ag,Q1,t46];simp only[abS,↓reduceIte,c.Af,d.Af,f.Af,e,BI m,i.Af,Cj]
 rw[Aa m];by_cases p:t.st [aXM];.rw[Ae p];have l:=GB J9 t av h;rw[Ak p] at l;obtain⟨h1,y,i,w1,j⟩:=Fw w (g.dn (n':=n+4) Ac) ht hv;obtain⟨z,x,v⟩:=GU w1 3;refine⟨_,_,?_,x,j.trans v⟩;rw[Ag,Q1,t46];simp only[abS,↓reduceIte,c.Af,d.Af,f.Af,l.Af,e,m,i.Af,z]
 rw[Aa p];have l:=GB J9 t av h;rw[Ap p] at l;have rt:=ł aXM h;obtain⟨h1,y,i,w1,j⟩:=Fw (t:=Gj aXM) (av:= .slnil) w (g.dn (n':=n+4) Ac) (Kf Az) (.inr ⟨rfl,rfl⟩);obtain⟨h2,A,r2,x,v⟩:=wW w1 3;simp only[Gj] at rt i;refine⟨_,_,?_,x,j.trans v⟩;rw[Ag,Q1,t46];simp only[abS,↓reduceIte,c.Af,d.Af,f.Af,l.Af,e,m,rt.Af,i.Af,r2.Af,BS.again]
def aQy(w:PB h bi b F)(g:Gz b (n+1000) o a)(ht:t.Sm)(hv:BF t.As av)(H:t.st [aXM]->Gn h F 51 [Pt bi 0,.agg (CT t av)] ff bi (b.I3 t)):Gn h F 47 [Pt bi 0,.agg (CT t av)] (.bool (b.DZ t).2) bi (b.DZ t).1:=by
 have Cj:=w.Cj;unfold BS.DZ;by_cases x:¬t.ok;.rw[Ae x];have c:=KJ w t av;rw[Ap x] at c;refine⟨_,_,?_,w,.refl⟩;rw[Ag,PQ,Ŷ];simp only[abS,↓reduceIte,c.Af]
 rw[Aa x];have c:=KJ w t av;rw[Ak (EZ.1 x)] at c;by_cases e:t.k=1;.rw[Ae e];refine⟨_,_,?_,w,.refl⟩;rw[Ag,PQ,Ŷ];simp only[abS,↓reduceIte,c.Af,BI e]
 rw[Aa e];by_cases v:t.E8;.rw[Ae v];have d:=Um t av h;rw[Ak v] at d;refine⟨_,_,?_,w,.refl⟩;rw[Ag,PQ,Ŷ];simp only[abS,↓reduceIte,c.Af,d.Af,e]
 rw[Aa v];have d:=Um t av h;rw[Ap v] at d;by_cases u:t.bD eHB;.rw[Ae u];have i:=bH lJ t av h;rw[Ak u] at i;refine⟨_,_,?_,w,.refl⟩;rw[Ag,PQ,Ŷ];simp only[abS,↓reduceIte,c.Af,d.Af,i.Af,e]
 rw[Aa u];have i:=bH lJ t av h;rw[Ap u] at i;by_cases m:t.k=4;.rw[Ae m];obtain⟨h1,D,f,w1,j⟩:=M4 (s:=t.data) w (g.dn (n':=n+1) Ac) (by have:=ht.data;omega) 0;refine⟨_,_,?_,w1,j⟩;rw[Ag,PQ,Ŷ];simp only[abS,↓reduceIte,c.Af,d.Af,i.Af,e,BI m,f.Af]
 rw[Aa m];by_cases q:t.st [aXM];.rw[Ae q];have l:=GB J9 t av h;rw[Ak q] at l;obtain⟨h1,D,f,w1,j⟩:=H q;refine⟨_,_,?_,w1,j⟩;rw[Ag,PQ,Ŷ];simp only[abS,↓reduceIte,c.Af,d.Af,i.Af,l.Af,e,m,f.Af]
 rw[Aa q];have l:=GB J9 t av h;rw[Ap q] at l;by_cases r:t.st [aXR];.rw[Ae r];have p:=GB Mp t av h;rw[Ak r] at p;obtain⟨h1,D,f,w1,j⟩:=Fw w (g.dn (n':=n+4) Ac) ht hv;obtain⟨C,B,z⟩:=Ŀ w1 (b.Li 1);obtain⟨E,A,y⟩:=GU B 4;refine⟨_,_,?_,A,(j.trans z).trans y⟩;rw[Ag,PQ,Ŷ];simp only[abS,↓reduceIte,c.Af,d.Af,i.Af,l.Af,p.Af,e,m,f.Af,C,E]
 rw[Aa r];have p:=GB Mp t av h;rw[Ap r] at p;have rt:=ł aXR h;obtain⟨h1,D,f,w1,j⟩:=Fw (t:=Gj aXR) (av:= .slnil) w (g.dn (n':=n+4) Ac) (Kf Az) (.inr ⟨rfl,rfl⟩);obtain⟨C,B,z⟩:=Ŀ w1 (b.Li 1);obtain⟨h3,I,G,A,y⟩:=wW B 4;simp only[Gj] at rt f;refine⟨_,_,?_,A,(j.trans z).trans y⟩;rw[Ag,PQ,Ŷ];simp only[abS,↓reduceIte,c.Af,d.Af,i.Af,l.Af,p.Af,e,m,rt.Af,f.Af,C,G.Af,BS.again]
def lK(w:PB h bi b F)(g:Gz b (n+1004) o a)(ht:t.Sm)(hv:BF t.As av)(hh:t.st [aXM]->Gn h F 51 [Pt bi 0,.agg (CT t av)] ff bi (b.I3 t)):Gn h F 48 [Pt bi 0,.agg (CT t av)] (.bool (b.C2 t).2) bi (b.C2 t).1:=by
 have Cj:=w.Cj;unfold BS.C2;by_cases N:¬t.ok;.rw[Ae N];have e:=KJ w t av;rw[Ap N] at e;refine⟨_,_,?_,w,.refl⟩;rw[Ag,Jn,mV];simp only[abS,↓reduceIte,e.Af]
 rw[Aa N];have e:=KJ w t av;rw[Ak (EZ.1 N)] at e;by_cases j:t.k=1;.rw[Ae j];refine⟨_,_,?_,w,.refl⟩;rw[Ag,Jn,mV];simp only[abS,↓reduceIte,e.Af,BI j]
 rw[Aa j];by_cases M:t.st [aXR];.rw[Ae M];have f:=GB Mp t av h;rw[Ak M] at f;refine⟨_,_,?_,w,.refl⟩;rw[Ag,Jn,mV];simp only[abS,↓reduceIte,e.Af,f.Af,j]
 rw[Aa M];have f:=GB Mp t av h;rw[Ap M] at f;by_cases L:t.bD lq;.rw[Ae L];have l:=bH qX t av h;rw[Ak L] at l;refine⟨_,_,?_,w,.refl⟩;rw[Ag,Jn,mV];simp only[abS,↓reduceIte,e.Af,f.Af,l.Af,j]
 rw[Aa L];have l:=bH qX t av h;rw[Ap L] at l;by_cases K:t.E8;.rw[Ae K];have m:=Um t av h;rw[Ak K] at m;obtain⟨h1,A,d,w1,c⟩:=ZB w (g.dn (n':=n+5) Ac) ht.r;refine⟨_,_,?_,w1,c⟩;rw[Ag,Jn,mV];simp only[abS,↓reduceIte,e.Af,f.Af,l.Af,m.Af,j,d.Af]
 rw[Aa K];have m:=Um t av h;rw[Ap K] at m;by_cases v:t.k=4;.rw[Ae v];obtain⟨h1,A,d,w1,c⟩:=M4 (s:=t.data) w (g.dn (n':=n+1) Ac) (by have:=ht.data;omega) 0;refine⟨_,_,?_,w1,c⟩;rw[Ag,Jn,mV];simp only[abS,↓reduceIte,e.Af,f.Af,l.Af,m.Af,j,BI v,d.Af]
 rw[Aa v];by_cases E:t.st [aXM];.rw[Ae E];have p:=GB J9 t av h;rw[Ak E] at p;obtain⟨h1,A,d,w1,c⟩:=hh E;refine⟨_,_,?_,w1,c⟩;rw[Ag,Jn,mV];simp only[abS,↓reduceIte,e.Af,f.Af,l.Af,m.Af,p.Af,j,v,d.Af]
 rw[Aa E];have p:=GB J9 t av h;rw[Ap E] at p;by_cases J:t.st V6;.rw[Ae J];have x:=GB qY t av h;rw[Ak J] at x;obtain⟨h1,A,d,w1,c⟩:=wX w (g.dn (n':=n+4) Ac) ht hv;refine⟨_,_,?_,w1,c⟩;rw[Ag,Jn,mV];simp only[abS,↓reduceIte,e.Af,f.Af,l.Af,m.Af,p.Af,x.Af,j,v,d.Af]
 rw[Aa J];have x:=GB qY t av h;rw[Ap J] at x;by_cases H:t.st [aX7];.rw[Ae H];have y:=GB eW t av h;rw[Ak H] at y;obtain⟨h1,A,d,w1,c⟩:=ZC w (g.dn (n':=n+4) Ac) ht hv 2;refine⟨_,_,?_,w1,c⟩;rw[Ag,Jn,mV];simp only[abS,↓reduceIte,e.Af,f.Af,l.Af,m.Af,p.Af,x.Af,y.Af,j,v,d.Af]
 rw[Aa H];have y:=GB eW t av h;rw[Ap H] at y;by_cases G:t.st sNS;.rw[Ae G];have B:=GB ń t av h;rw[Ak G] at B;obtain⟨h1,A,d,w1,c⟩:=ZC w (g.dn (n':=n+4) Ac) ht hv 3;refine⟨_,_,?_,w1,c⟩;rw[Ag,Jn,mV];simp only[abS,↓reduceIte,e.Af,f.Af,l.Af,m.Af,p.Af,x.Af,y.Af,B.Af,j,v,d.Af]
 rw[Aa G];have B:=GB ń t av h;rw[Ap G] at B;by_cases Pg:t.st [aYq];.rw[Ae Pg];have wY:=GB ZG t av h;rw[Ak Pg] at wY;obtain⟨h1,A,d,w1,c⟩:=ZC w (g.dn (n':=n+4) Ac) ht hv 4;refine⟨_,_,?_,w1,c⟩;rw[Ag,Jn,mV];simp only[abS,↓reduceIte,e.Af,f.Af,l.Af,m.Af,p.Af,x.Af,y.Af,B.Af,wY.Af,j,v,d.Af]
 rw[Aa Pg];have wY:=GB ZG t av h;rw[Ap Pg] at wY;by_cases UD:t.st [aXY];.rw[Ae UD];have i:=GB MZ t av h;rw[Ak UD] at i;obtain⟨h1,A,d,w1,c⟩:=Fw w (g.dn (n':=n+4) Ac) ht hv;obtain⟨O,D,C⟩:=GU w1 5;refine⟨_,_,?_,D,c.trans C⟩;rw[Ag,Jn,mV];simp only[abS,↓reduceIte,e.Af,f.Af,l.Af,m.Af,p.Af,x.Af,y.Af,B.Af,wY.Af,i.Af,j,v,d.Af,O]
 rw[Aa UD];have i:=GB MZ t av h;rw[Ap UD] at i;by_cases Wa:t.en [aXR];.rw[Ae Wa];have vn:=bG Mp t av h;rw[Ak Wa] at vn;obtain⟨h1,A,d,w1,c⟩:=Qg w (g.dn (n':=n) Ac);obtain⟨O,D,C⟩:=GU w1 6;refine⟨_,_,?_,D,c.trans C⟩;rw[Ag,Jn,mV];simp only[abS,↓reduceIte,e.Af,f.Af,l.Af,m.Af,p.Af,x.Af,y.Af,B.Af,wY.Af,i.Af,vn.Af,j,v,d.Af,O]
 rw[Aa Wa];have vn:=bG Mp t av h;rw[Ap Wa] at vn;by_cases eX:t.st [AW]
 .rw[Ae eX];have q:=GB Hu t av h;rw[Ak eX] at q;obtain⟨h1,A,d,w1,c⟩:=Fw w (g.dn (n':=n+4) Ac) ht hv;have g1:=(g.dn (n':=n+2+4) Ac).Cr ht;obtain⟨h2,F2,r2,D,C⟩:=ľ w1 g1;obtain⟨Y,V,T⟩:=Mo D false;obtain⟨X,Q,S⟩:=GU V 18;obtain⟨tv,l5,P⟩:=Q.ltm;have tb:(b.Cr t).tm.length<=900000000:=by have:=g1.rm.tm;omega
  obtain⟨u,Z,hu⟩:=aHd P FY (put (put h2 bi 14 ff) bi 4 (I 18));have e6:=Bx.pD (b:=8) (a:=(18:Int)) hu (by simp only;have:AY=140737488355328:=rfl;omega);have em:AE (.Cb 1) [I 18]=some (.sl 1 [Di 18]):=rfl;have TM:IY ((b.Cr t).tm++[(18:Int)]) (.sl 1 (((b.Cr t).tm++[(18:Int)]).map Di)):= .mk;obtain⟨W,U,R⟩:=aLC Q TM;refine⟨_,_,?_,U,(((c.trans C).trans T).trans S).trans R⟩;rw[Ag,Jn,mV];simp only[abS,↓reduceIte,e.Af,f.Af,l.Af,m.Af,p.Af,x.Af,y.Af,B.Af,wY.Af,i.Af,vn.Af,q.Af,j,v,d.Af,r2.Af,Y,X,l5,Z.Af,em,e6,W]
 rw[Aa eX];have q:=GB Hu t av h;rw[Ap eX] at q;by_cases ZH:t.en [AW];.rw[Ae ZH];have z:=bG Hu t av h;rw[Ak ZH] at z;obtain⟨h1,A,d,w1,c⟩:=aHv w (g.dn (n':=n) Ac);refine⟨_,_,?_,w1,c⟩;rw[Ag,Jn,mV];simp only[abS,↓reduceIte,e.Af,f.Af,l.Af,m.Af,p.Af,x.Af,y.Af,B.Af,wY.Af,i.Af,vn.Af,q.Af,z.Af,j,v,d.Af]
 rw[Aa ZH];have z:=bG Hu t av h;rw[Ap ZH] at z;obtain⟨h1,A,d,w1,c⟩:=Qg w (g.dn (n':=n) Ac);obtain⟨h2,F2,r2,D,C⟩:=wW w1 6;refine⟨_,_,?_,D,c.trans C⟩;rw[Ag,Jn,mV];simp only[abS,↓reduceIte,e.Af,f.Af,l.Af,m.Af,p.Af,x.Af,y.Af,B.Af,wY.Af,i.Af,vn.Af,q.Af,z.Af,j,v,d.Af,r2.Af,BS.again]
def aQz(w:PB h bi b F)(g:Gz b (n+1004) o a)(ht:t.Sm)(hv:BF t.As av)(C:t.st [aXM]->Gn h F 51 [Pt bi 0,.agg (CT t av)] ff bi (b.I3 t)):Gn h F 49 [Pt bi 0,.agg (CT t av)] (.bool (b.FG t).2) bi (b.FG t).1:=by
 have Cj:=w.Cj;unfold BS.FG;by_cases B:¬t.ok;.rw[Ae B];have c:=KJ w t av;rw[Ap B] at c;refine⟨_,_,?_,w,.refl⟩;rw[Ag,Nr,xy];simp only[abS,↓reduceIte,c.Af]
 rw[Aa B];have c:=KJ w t av;rw[Ak (EZ.1 B)] at c;by_cases i:t.k=1;.rw[Ae i];refine⟨_,_,?_,w,.refl⟩;rw[Ag,Nr,xy];simp only[abS,↓reduceIte,c.Af,BI i]
 rw[Aa i];by_cases A:t.st sHN;.rw[Ae A];have f:=GB Ņ t av h;rw[Ak A] at f;refine⟨_,_,?_,w,.refl⟩;rw[Ag,Nr,xy];simp only[abS,↓reduceIte,c.Af,f.Af,i]
 rw[Aa A];have f:=GB Ņ t av h;rw[Ap A] at f;by_cases z:t.bD eNo;.rw[Ae z];have j:=bH Ń t av h;rw[Ak z] at j;refine⟨_,_,?_,w,.refl⟩;rw[Ag,Nr,xy];simp only[abS,↓reduceIte,c.Af,f.Af,j.Af,i]
 rw[Aa z];have j:=bH Ń t av h;rw[Ap z] at j;by_cases s:t.st [aXM];.rw[Ae s];have l:=GB J9 t av h;rw[Ak s] at l;obtain⟨h1,u,e,w1,d⟩:=C s;refine⟨_,_,?_,w1,d⟩;rw[Ag,Nr,xy];simp only[abS,↓reduceIte,c.Af,f.Af,j.Af,l.Af,i,e.Af]
 rw[Aa s];have l:=GB J9 t av h;rw[Ap s] at l;by_cases y:t.en [aXY];.rw[Ae y];have m:=bG MZ t av h;rw[Ak y] at m;obtain⟨h1,u,e,w1,d⟩:=Qg w (g.dn (n':=n) Ac);obtain⟨G,E,D⟩:=GU w1 4;refine⟨_,_,?_,E,d.trans D⟩;rw[Ag,Nr,xy];simp only[abS,↓reduceIte,c.Af,f.Af,j.Af,l.Af,m.Af,i,e.Af,G]
 rw[Aa y];have m:=bG MZ t av h;rw[Ap y] at m;by_cases x:t.E8;.rw[Ae x];have p:=Um t av h;rw[Ak x] at p;obtain⟨h1,u,e,w1,d⟩:=lK w g ht hv C;refine⟨_,_,?_,w1,d⟩;rw[Ag,Nr,xy];simp only[abS,↓reduceIte,c.Af,f.Af,j.Af,l.Af,m.Af,p.Af,i,e.Af]
 rw[Aa x];have p:=Um t av h;rw[Ap x] at p;by_cases r:t.k=4;.rw[Ae r];obtain⟨h1,u,e,w1,d⟩:=lK w g ht hv C;refine⟨_,_,?_,w1,d⟩;rw[Ag,Nr,xy];simp only[abS,↓reduceIte,c.Af,f.Af,j.Af,l.Af,m.Af,p.Af,i,BI r,e.Af]
 rw[Aa r];by_cases v:t.st ĵ;.rw[Ae v];have q:=GB mn t av h;rw[Ak v] at q;obtain⟨h1,u,e,w1,d⟩:=lK w g ht hv C;refine⟨_,_,?_,w1,d⟩;rw[Ag,Nr,xy];simp only[abS,↓reduceIte,c.Af,f.Af,j.Af,l.Af,m.Af,p.Af,q.Af,i,r,e.Af]
 rw[Aa v];have q:=GB mn t av h;rw[Ap v] at q;obtain⟨h1,u,e,w1,d⟩:=Qg w (g.dn (n':=n) Ac);obtain⟨h2,H,r2,E,D⟩:=wW w1 4;refine⟨_,_,?_,E,d.trans D⟩;rw[Ag,Nr,xy];simp only[abS,↓reduceIte,c.Af,f.Af,j.Af,l.Af,m.Af,p.Af,q.Af,i,r,e.Af,r2.Af,BS.again]
def aQA(w:PB h bi b F)(g:Gz b (n+1005) o a)(ho:Ny b)(ht:t.Sm)(hv:BF t.As av)(hs:t.st Ge):Gn h F 80 [Pt bi 0,.agg (CT t av),.func (.func 48) [] []] (.bool (b.Fe t).2) bi (b.Fe t).1:=by
 have Cj:=w.Cj;obtain⟨h1,u,m,w1,f⟩:=aHw w g (BS.DF b.head);have g1:=Gz.push (n:=n+1004) g ho;have hx:¬t.st [aXM]:=λh=>by have h1:=h.2;have h2:=hs.2;rw[Bv.1 h1] at h2;revert h2;decide
 obtain⟨h2,s,r2,j,d⟩:=lK w1 g1 ht hv (λh=>absurd h hx);obtain⟨r,h3,q,k,i,c⟩:=ZE j (g1.C2 ht) b.head;refine⟨h3,q,?_,i,(f.trans d).trans c⟩;have e:AE (.Dc [I 0,I 0,S [],ff] [(0,1),(1,1),(2,1)]) [I b.head,I 1,S aXR]=some (.agg (BS.DF b.head).row):=rfl;have p:∀l,CR (.func (.func 48) [] []) l=some (48,l):=λl=>by simp[CR]
 rw[Ag,ü,t80];simp only[Cy,Cj,e,m.Af,p,r2.Af,k.Af];rfl
def aQB(w:PB h bi b F)(g:Gz b (n+1005) o a)(ht:t.Sm)(hv:BF t.As av)(ho:Ny b)(K:t.st [aXM]->Gn h F 51 [Pt bi 0,.agg (CT t av)] ff bi (b.I3 t)):Gn h F 50 [Pt bi 0,.agg (CT t av)] (.bool (b.Ex t).2) bi (b.Ex t).1:=by
 have Cj:=w.Cj;unfold BS.Ex;by_cases I:¬t.ok;.rw[Ae I];have e:=KJ w t av;rw[Ap I] at e;refine⟨_,_,?_,w,.refl⟩;rw[Ag,LI,aw];simp only[abS,↓reduceIte,e.Af]
 rw[Aa I];have e:=KJ w t av;rw[Ak (EZ.1 I)] at e;by_cases i:t.k=1;.rw[Ae i];refine⟨_,_,?_,w,.refl⟩;rw[Ag,LI,aw];simp only[abS,↓reduceIte,e.Af,BI i]
 rw[Aa i];by_cases H:t.st [aXR];.rw[Ae H];have f:=GB Mp t av h;rw[Ak H] at f;refine⟨_,_,?_,w,.refl⟩;rw[Ag,LI,aw];simp only[abS,↓reduceIte,e.Af,f.Af,i]
 rw[Aa H];have f:=GB Mp t av h;rw[Ap H] at f;by_cases G:t.bD wQ;.rw[Ae G];have j:=bH eV t av h;rw[Ak G] at j;refine⟨_,_,?_,w,.refl⟩;rw[Ag,LI,aw];simp only[abS,↓reduceIte,e.Af,f.Af,j.Af,i]
 rw[Aa G];have j:=bH eV t av h;rw[Ap G] at j;by_cases E:t.E8;.rw[Ae E];have l:=Um t av h;rw[Ak E] at l;obtain⟨h1,v,c,w1,d⟩:=ZB w (g.dn (n':=n+5) Ac) ht.r;refine⟨_,_,?_,w1,d⟩;rw[Ag,LI,aw];simp only[abS,↓reduceIte,e.Af,f.Af,j.Af,l.Af,i,c.Af]
 rw[Aa E];have l:=Um t av h;rw[Ap E] at l;by_cases p:t.k=4;.rw[Ae p];obtain⟨h1,v,c,w1,d⟩:=M4 (s:=t.data) w (g.dn (n':=n+1) Ac) (by have:=ht.data;omega) 0;refine⟨_,_,?_,w1,d⟩;rw[Ag,LI,aw];simp only[abS,↓reduceIte,e.Af,f.Af,j.Af,l.Af,i,BI p,c.Af]
 rw[Aa p];by_cases B:t.st [aXM];.rw[Ae B];have m:=GB J9 t av h;rw[Ak B] at m;obtain⟨h1,v,c,w1,d⟩:=K B;refine⟨_,_,?_,w1,d⟩;rw[Ag,LI,aw];simp only[abS,↓reduceIte,e.Af,f.Af,j.Af,l.Af,m.Af,i,p,c.Af]
 rw[Aa B];have m:=GB J9 t av h;rw[Ap B] at m;by_cases D:t.st [aXS];.rw[Ae D];have q:=GB qZ t av h;rw[Ak D] at q;obtain⟨h1,v,c,w1,d⟩:=Fw w (g.dn (n':=n+4) Ac) ht hv;obtain⟨J,z,y⟩:=Mo w1 false;obtain⟨N,M,L⟩:=GU z 7;refine⟨_,_,?_,M,(d.trans y).trans L⟩;rw[Ag,LI,aw];simp only[abS,↓reduceIte,e.Af,f.Af,j.Af,l.Af,m.Af,q.Af,i,p,c.Af,J,N]
 rw[Aa D];have q:=GB qZ t av h;rw[Ap D] at q;by_cases C:t.st [aXV];.rw[Ae C];have u:=GB Un t av h;rw[Ak C] at u;obtain⟨h1,v,c,w1,d⟩:=Fw w (g.dn (n':=n+4) Ac) ht hv;obtain⟨J,z,y⟩:=GU w1 20;refine⟨_,_,?_,z,d.trans y⟩;rw[Ag,LI,aw];simp only[abS,↓reduceIte,e.Af,f.Af,j.Af,l.Af,m.Af,q.Af,u.Af,i,p,c.Af,J]
 rw[Aa C];have u:=GB Un t av h;rw[Ap C] at u;by_cases A:t.st Ge;.rw[Ae A];have x:=GB RP t av h;rw[Ak A] at x;obtain⟨h1,v,c,w1,d⟩:=aQA w g ho ht hv A;refine⟨_,_,?_,w1,d⟩;rw[Ag,LI,aw];simp only[abS,↓reduceIte,e.Af,f.Af,j.Af,l.Af,m.Af,q.Af,u.Af,x.Af,i,p,c.Af]
 rw[Aa A];have x:=GB RP t av h;rw[Ap A] at x;by_cases Pg:t.en [AW];.rw[Ae Pg];have wY:=bG Hu t av h;rw[Ak Pg] at wY;obtain⟨h1,v,c,w1,d⟩:=lK w (g.dn (n':=n+1004) Ac) ht hv K;refine⟨_,_,?_,w1,d⟩;rw[Ag,LI,aw];simp only[abS,↓reduceIte,e.Af,f.Af,j.Af,l.Af,m.Af,q.Af,u.Af,x.Af,wY.Af,i,p,c.Af]
 rw[Aa Pg];have wY:=bG Hu t av h;rw[Ap Pg] at wY;have rt:=ł aXS h;obtain⟨h1,v,c,w1,d⟩:=Fw (t:=Gj aXS) (av:= .slnil) w (g.dn (n':=n+4) Ac) (Kf Az) (.inr ⟨rfl,rfl⟩);obtain⟨h2,O,r2,z,y⟩:=wW w1 7;simp only[Gj] at rt c;refine⟨_,_,?_,z,d.trans y⟩;rw[Ag,LI,aw];simp only[abS,↓reduceIte,e.Af,f.Af,j.Af,l.Af,m.Af,q.Af,u.Af,x.Af,wY.Af,i,p,rt.Af,c.Af,r2.Af,BS.again]
def aQC(w:PB h bi b F)(g:Gz b (n+5) o a)(ht:t.Sm)(hv:BF t.As av):Gn h F 52 [Pt bi 0,.agg (CT t av)] (.bool (b.LL t).2) bi (b.LL t).1:=by
 have Cj:=w.Cj;unfold BS.LL;by_cases m:¬t.ok;.rw[Ae m];have d:=KJ w t av;rw[Ap m] at d;refine⟨_,_,?_,w,.refl⟩;rw[Ag,Ve,t52];simp only[abS,↓reduceIte,d.Af]
 rw[Aa m];have d:=KJ w t av;rw[Ak (EZ.1 m)] at d;by_cases e:t.k=5;.rw[Ae e];obtain⟨h1,u,i,w1,f⟩:=ZB w (g.dn (n':=n+5) Ac) ht.r;refine⟨_,_,?_,w1,f⟩;rw[Ag,Ve,t52];simp only[abS,↓reduceIte,d.Af,BI e,i.Af]
 rw[Aa e];by_cases j:t.k=6
 .rw[Ae j];obtain⟨h1,u,i,w1,f⟩:=Qg w (g.dn (n':=n) Ac);have s:b.FB.IV=b.IV:=by unfold BS.FB;split<;>rfl
  have c:=w1.Cj;rw[s] at c;obtain⟨h2,x,r2,q,p⟩:=wW w1 b.IV;refine⟨_,_,?_,q,f.trans p⟩;rw[Ag,Ve,t52];simp only[abS,↓reduceIte,d.Af,e,BI j,i.Af,c,r2.Af,BS.again]
 rw[Aa j];by_cases l:t.k=3
 .rw[Ae l];obtain⟨h1,u,i,w1,f⟩:=Qg w (g.dn (n':=n) Ac);have s:b.FB.IV=b.IV:=by unfold BS.FB;split<;>rfl
  have c:=w1.Cj;rw[s] at c;obtain⟨v,q,p⟩:=GU w1 b.IV;refine⟨_,_,?_,q,f.trans p⟩;rw[Ag,Ve,t52];simp only[abS,↓reduceIte,d.Af,e,j,BI l,i.Af,c,v]
 rw[Aa l];refine⟨_,_,?_,w,.refl⟩;rw[Ag,Ve,t52];simp only[abS,↓reduceIte,d.Af,e,j,l]
end
end Go.Am
end
