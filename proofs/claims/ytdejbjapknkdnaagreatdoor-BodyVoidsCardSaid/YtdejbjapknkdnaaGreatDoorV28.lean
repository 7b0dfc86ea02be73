/- Lemmas -/
import Derived.Test.YtdejbjapknkdnaaGreatDoorV25
import Derived.Test.YtdejbjapknkdnaaGreatDoorV27
set_option linter.all false
noncomputable section
set_option maxRecDepth 100000
section
namespace Go.Am
open Go
structure Dv where
 k:Int
 name:Ad
 hn:Bool
 Ke:Ad
 hp:Bool
 sys:Ad
 hs:Bool
 q:Bool
 Aq:List A9
 sc:Bool
 data:Ad
 r:Int
namespace Dv
def ok(t:Dv):Prop:=1<=t.k/\t.k<=6
instance(t:Dv):Decidable t.ok:=by unfold ok;infer_instance
def st(t:Dv)(ws:List Ad):Prop:=t.k=2/\t.name∈ws
instance(t:Dv)(ws:List Ad):Decidable (t.st ws):=by unfold st;infer_instance
def en(t:Dv)(ws:List Ad):Prop:=t.k=3/\t.name∈ws
instance(t:Dv)(ws:List Ad):Decidable (t.en ws):=by unfold en;infer_instance
def nU(t:Dv)(ws:List Ad):Prop:=t.k=3/\t.name∉ws
instance(t:Dv)(ws:List Ad):Decidable (t.nU ws):=by unfold nU;infer_instance
end Dv
def qy(r:Int):Prop:=(9<=r/\r<=10)\/(12<=r/\r<=13)\/r=32
instance(r:Int):Decidable (qy r):=by unfold qy;infer_instance
namespace Dv
def Ju(t:Dv):Prop:=t.k=5/\qy t.r
instance(t:Dv):Decidable t.Ju:=by unfold Ju;infer_instance
end Dv
def HG(nm:Ad):Dv:=⟨2,nm,false,[],false,[],false,false,[],false,[],0⟩
def eHB:List Ad:=[aWW,aWX,aWS,[98,114]]
def dk:List Ad:=[aWW,aWU,aWX,aWS,[98,114]]
def tN:List Ad:=[aWU,aWX,aWS,[98,114]]
def eNo:List Ad:=[aW3,[98,114]]
def Me:List Ad:=[aYD,aYk,aYr,aYb,aYh]
def sNS:List Ad:=[aXv,aXV]
def aAe:List Ad:=[aYk,aYr,aYb,aYh,aXv,aXV]
def sHN:List Ad:=[aWW,aW3]
def EY:List Ad:=[aYD,aYk,aYr,aYb,aYh,aXv,aXg,aXV,aWU,aW4]
def sT1:List Ad:=[aXl,aXu,aXK,aXH,aXL]
def sTd:List Ad:=[[116,100],[116,104]]
def iN:List Ad:=[aYs,[97,114,116,105,99,108,101],[97,115,105,100,101],aYw,[99,101,110,116,101,114],[100,101,116,97,105,108,115],[100,105,97,108,111,103],[100,105,114],[100,105,118],[100,108],aYG,aYx,[102,105,103,117,114,101],[102,111,111,116,101,114],[104,101,97,100,101,114],[104,103,114,111,117,112],[109,97,105,110],[109,101,110,117],[110,97,118],[111,108],[112],[115,101,97,114,99,104],[115,101,99,116,105,111,110],[115,117,109,109,97,114,121],[117,108]]
def aAf:List Ad:=[[112,114,101],[108,105,115,116,105,110,103]]
def Ä:List Ad:=[[98],[98,105,103],[99,111,100,101],[101,109],aYY,[105],[115],aYO,aYB,aYC,[116,116],[117]]
def ZR:List Ad:=[aYg,aX6,aYl]
def iO:List Ad:=[[97,114,101,97],[98,114],[101,109,98,101,100],aYH,aYu,[107,101,121,103,101,110],[119,98,114],aYq,aYz,aYi,aYA,[104,114]]
def dm:List Ad:=[aXl,aYp,aXu,[102,114,97,109,101],aWW,aXK,[116,100],aXH,[116,104],aXL,[116,114]]
def od:List Ad:=[aXR,aYI,aX4,[110,111,101,109,98,101,100],aXM]
def dr:List Ad:=[[114,98],aYf,[114,112],[114,116]]
def aAg:List Ad:=[aXY,[115,118,103]]
def du:List Ad:=[[108,105],[100,100],[100,116]]
def aAh:List Ad:=[aXC,aXb]
def QB:List Ad:=[aWS,aWX]
def UW:List Ad:=[aYs,[97,114,116,105,99,108,101],[97,115,105,100,101],aYw,aWV,[99,101,110,116,101,114],[100,101,116,97,105,108,115],[100,105,97,108,111,103],[100,105,114],[100,105,118],[100,108],aYG,aYx,[102,105,103,117,114,101],[102,111,111,116,101,114],[104,101,97,100,101,114],[104,103,114,111,117,112],[108,105,115,116,105,110,103],[109,97,105,110],[109,101,110,117],[110,97,118],[111,108],[112,114,101],[115,101,97,114,99,104],[115,101,99,116,105,111,110],[115,117,109,109,97,114,121],[117,108]]
def Å:List Ad:=[[97],[98],[98,105,103],[99,111,100,101],[101,109],aYY,[105],aXk,[115],aYO,aYB,aYC,[116,116],[117]]
def cF:List Ad:=[[112],[108,105],[100,100],[100,116]]
def ZS:List Ad:=[aYs,[100,105,118],[112]]
def wDD:List Ad:=[[100,100],[100,116]]
def aAi:List Ad:=[aYz,aYi,aYA]
namespace BS
def C6(b:BS)(t:Dv):BS:=b.CX t.name t.Aq 1
def GO(b:BS)(t:Dv):BS:=(b.C6 t).Gs
def Sv(b:BS):BS:={b with a:=b.a.set b.CB {b.a.nd b.CB with DH:=true}}
def RR(b:BS)(t:Dv):BS:={b with a:=(b.a.add {kind:=3,CB:=b.CB,name:=t.name,Ke:=t.Ke,sys:=t.sys}).Ip b.CB (b.a.len+1) 0}
def again(b:BS)(m:Int):BS×Bool:=({b with mode:=m},true)
def Ql(b:BS):Prop:=0<=Ax (AA [AF]) b.Au
instance(b:BS):Decidable b.Ql:=by unfold Ql;infer_instance
def has(b:BS)(ws:List Ad):Bool:=Hc (AA ws) (Gg 1) b.Au.reverse
def Dt(b:BS)(nm ex:Ad):BS:={b with Au:=DN C8 (AA [nm]) (DN (Cz ex) C8 b.Au)}
def Jb(b:BS)(t:Dv):BS:=if b.Ql\/b.Au=[] then b else b.GN t.Aq (DT b.Au 0).node
def L9(b:BS):Bool:=decide (2<=b.Au.length)&&AA [aWX] (DT b.Au 1)
def La(b:BS)(t:Dv):BS:=
 if b.Ql\/b.Au=[] then b else if t.name=aWS then b.GN t.Aq (DT b.Au 0).node
 else if b.L9 then({b with fs:=false}:BS).GN t.Aq (DT b.Au 1).node else b
def Ls(DH:Dv->Bool)(b:BS)(t:Dv):BS×Bool:=
 if¬t.ok then(b,false)
 else if t.Ju then(b,false)
 else if t.k=4 then(b.DA t.data b.CB,false)
 else if t.k≠1 then b.Sv.again 2
 else
  let b1:=b.RR t
  let a:=if DH t then b1.Sv else b1
  ({a with mode:=2},false)
def Hj(b:BS)(t:Dv):BS×Bool:=
 if¬t.ok then(b,false)
 else if t.k=1 then(b,false)
 else if t.Ju then(b,false)
 else if t.nU eHB then(b,false)
 else if t.k=4 then(b.DA t.data b.CB,false)
 else if t.st [aWS] then({b.C6 t with mode:=3},false)
 else(b.C6 (HG aWS)).again 3
def Hk(b:BS)(t:Dv):BS×Bool:=
 if¬t.ok then(b,false)
 else if t.k=1 then(b,false)
 else if t.Ju then(b,false)
 else if t.nU eHB then(b,false)
 else if t.k=4 then(b.DA t.data 0,false)
 else if t.st [aWS] then(b.Jb t,false)
 else if t.st [aWW] then({b.C6 t with head:=b.MQ 1,mode:=4},false)
 else({b.C6 (HG aWW) with head:=b.MQ 1}:BS).again 4
def Dh(b:BS)(t:Dv):BS×Bool:=
 if¬t.ok then(b,false)
 else if t.k=1 then(b,false)
 else if t.st [aWW] then(b,false)
 else if t.nU dk then(b,false)
 else if t.Ju then(b.Mo t.r,false)
 else if t.k=4 then(b.DA t.data 0,false)
 else if t.st [aWS] then(b.Jb t,false)
 else if t.st Me then(b.GO t,false)
 else if t.st [aW4] then(b.Df t.name t.Aq 2,false)
 else if t.st sNS then(b.Df t.name t.Aq 3,false)
 else if t.st [aXg] then(b.Df t.name t.Aq 4,false)
 else if t.st [aW3] then({b.C6 t with mode:=5},false)
 else if t.en [aWW] then({b.Gs with mode:=6},false)
 else if t.st [AF] then
  let b1:=b.C6 t
  ({b1 with AW:=b1.AW++[B2.zero],fs:=false,mode:=18,tm:=b1.tm++[18]},false)
 else if t.en [AF] then(b.CN,false)
 else b.Gs.again 6
def Hl(b:BS)(t:Dv):BS×Bool:=
 if¬t.ok then(b,false)
 else if t.k=1 then(b,false)
 else if t.st sHN then(b,false)
 else if t.nU eNo then(b,false)
 else if t.st [aWS] then(b.Jb t,false)
 else if t.en [aW3] then({b.Gs with mode:=4},false)
 else if t.Ju then b.Dh t
 else if t.k=4 then b.Dh t
 else if t.st aAe then b.Dh t
 else b.Gs.again 4
def EM(n:Int):Item:=⟨n,1,aWW,false⟩
def Ii(b:BS)(t:Dv):BS×Bool:=
 let r:=({b with Au:=b.Au++[EM b.head]}:BS).Dh t
 ({r.1 with Au:=B9 b.head r.1.Au},r.2)
def HH(b:BS)(t:Dv):BS×Bool:=
 if¬t.ok then(b,false)
 else if t.k=1 then(b,false)
 else if t.st [aWW] then(b,false)
 else if t.nU tN then(b,false)
 else if t.Ju then(b.Mo t.r,false)
 else if t.k=4 then(b.DA t.data 0,false)
 else if t.st [aWS] then(b.Jb t,false)
 else if t.st [aWX] then({b.C6 t with fs:=false,mode:=7},false)
 else if t.st [aW0] then({b.C6 t with mode:=20},false)
 else if t.st EY then b.Ii t
 else if t.en [AF] then b.Dh t
 else(b.C6 (HG aWX)).again 7
def Ma(b:BS)(t:Dv):BS×Bool:=
 if¬t.ok then(b,false)
 else if t.k=5 then(b.Mo t.r,false)
 else if t.k=6 then b.Gs.again b.GM
 else if t.k=3 then({b.Gs with mode:=b.GM},false)
 else(b,false)
def aFF(b:BS):BS:={b with tm:=b.tm.dropLast}
def EZ(b:BS)(m:Int):BS×Bool:=({b with tm:=b.tm.dropLast++[m]}:BS).again m
def M1(b:BS)(t:Dv):BS:=
 if t.r=0 then b else
 let b1:=b.AO.Mo t.r
 if t.Ju then b1 else{b1 with fs:=false}
def QC(b:BS):BS×Bool:=
 if b.Ql then(({b with Au:=DN C8 (AA [AF]) b.Au,AW:=EX b.AW,tm:=b.tm.dropLast}:BS).Js,true)
 else({b with stop:=true},false)
def Ei(b:BS)(t:Dv):BS×Bool:=
 if¬t.ok then(b,false)
 else if t.k=5 then(b.M1 t,false)
 else if t.k=4 then(b.DA t.data 0,false)
 else if t.k=1 then(b,false)
 else if t.st EY then b.Dh t
 else if t.en [AF] then b.Dh t
 else if t.st sT1 then b.EZ 9
 else if t.st [aYp] then b.EZ 12
 else if t.st [[116,114]] then b.EZ 13
 else if t.st sTd then b.EZ 14
 else if t.k=2 then b.EZ 7
 else if t.k=3 then(b,false)
 else b.QC
def block(b:BS)(t:Dv):BS:=b.Cs.C6 t
def Kt(b:BS)(t:Dv):BS:=
 let b1:=b.Cs
 (if AA Da (En b1.Au) then b1.Gs else b1).C6 t
def Kd(b:BS)(t:Dv):BS:={b.block t with skip:=true,fs:=false}
def QD(b:BS)(t:Dv):BS:=
 if b.FJ≠0/\¬b.Ql then b else
 let b1:=b.Cs
 if b.Ql then b1.C6 t else{b1.C6 t with FJ:=b1.MQ 1}
def Jg(ws:List Ad)(i:Item):Bool:=AA ws i||(AL i&& !(AA ZS i))
def HP(b:BS)(ws:List Ad):BS:=match b.Au.reverse.find? (Jg ws) with
 |some i=>if AA ws i then b.Dt i.name i.name else b
 |none=>b
def YS(b:BS)(t:Dv):BS:=(({b with fs:=false}:BS).HP (if t.name=[108,105] then[[108,105]] else wDD)).block t
def NR(b:BS)(t:Dv):BS:=
 let b1:=if b.has [aWV] then b.Dt aWV [] else b
 {b1.AO.C6 t with fs:=false}
def Æ(b:BS)(t:Dv):BS:=b.AO.Fw t.name t.Aq
def JD(l:List B2)(n:Int):List B2:=if Fo n l<0 then l else Bs l (Fo n l).toNat
def RS(b:BS):BS:=
 let k:=D7 [97] b.AW
 if k<0 then b else
 let n:=(b.AW.getD k.toNat B2.zero).node
 let b1:=b.Du [97]
 {b1 with AW:=JD b1.AW n,Au:=B9 n b1.Au}
def iP(b:BS)(t:Dv):BS:=b.RS.Æ t
def ZT(b:BS)(t:Dv):BS:=
 let b1:=b.AO
 (if b1.has [aXk] then(b1.Du aXk).AO else b1).Fw t.name t.Aq
def BP(b:BS)(t:Dv):BS:=
 let b1:=b.AO.C6 t
 {b1 with AW:=b1.AW++[B2.zero],fs:=false}
def Sw(b:BS)(t:Dv):BS:=
 let b1:=if(b.a.nd b.CB).DH then b else b.Cs
 {b1.C6 t with fs:=false,mode:=9}
def QE(l:List A9):Bool:=match l.find? λa=>decide (a.name=aX5) with
 |some a=>decide (ET a.value=aXT)
 |none=>false
def empty(b:BS)(t:Dv):BS:=
 if t.name=[104,114] then{b.Cs.GO t with fs:=false}
 else if t.name∈aAi then{b.GO t with fs:=b.fs}
 else if t.name=aYq then{b.AO.GO t with fs:=b.fs&&QE t.Aq}
 else{b.AO.GO {t with name:=if t.name=aYu then aYH else t.name} with fs:=false}
def ZU(b:BS)(t:Dv):BS:=
 if t.name=aXM then{b.block t with sw:=5}
 else if t.name=aXR then{b.Df t.name t.Aq 2 with skip:=true,fs:=false}
 else if t.name=aYI then({b.Cs.AO with fs:=false}:BS).Df t.name t.Aq 3
 else if t.name=aX4 then({b with fs:=false}:BS).Df t.name t.Aq 3
 else b.Df t.name t.Aq 3
def UX(b:BS)(t:Dv):BS:=
 {b.AO.C6 t with fs:=false,mode:=if b.mode=9\/b.mode=11\/b.mode=13\/b.mode=14\/b.mode=15 then 17 else 16}
def NS(b:BS)(t:Dv):BS:=(if AA [aXb] (En b.Au) then b.Gs else b).AO.C6 t
def YT(b:BS)(t:Dv):BS:=
 (if b.has [aX7] then{b with Au:=DN (Cz (if t.name=[114,112]\/t.name=[114,116] then aYf else[])) C8 b.Au} else b).C6 t
def Ku(b:BS)(t:Dv):BS:=
 let b1:=b.AO.CX t.name t.Aq (if t.name=aXY then 3 else 2)
 if t.sc then b1.Gs else b1
def J3(b:BS)(t:Dv):BS:=
 if b.L9=false\/b.fs=false then b else
 {({b with a:=b.a.cut (DT b.Au 1).node,Au:=b.Au.take 1}:BS).C6 t with mode:=20}
def opens(b:BS)(t:Dv):BS×Bool:=
 if t.name∈EY then b.Dh t
 else if t.name∈iN then(b.block t,false)
 else if t.name∈Da then(b.Kt t,false)
 else if t.name∈aAf then(b.Kd t,false)
 else if t.name∈Ä then(b.Æ t,false)
 else if t.name∈ZR then(b.BP t,false)
 else if t.name∈iO then(b.empty t,false)
 else if t.name∈dm then(b,false)
 else if t.name∈od then(b.ZU t,false)
 else if t.name∈dr then(b.YT t,false)
 else if t.name∈aAg then(b.Ku t,false)
 else if t.name∈du then(b.YS t,false)
 else if t.name∈aAh then(b.NS t,false)
 else if t.name∈QB then(b.La t,false)
 else if t.name=aW0 then(b.J3 t,false)
 else if t.name=aXn then(b.QD t,false)
 else if t.name=aWV then(b.NR t,false)
 else if t.name=[97] then(b.iP t,false)
 else if t.name=aXk then(b.ZT t,false)
 else if t.name=aXa then(b.Sw t,false)
 else if t.name=aXz then(b.UX t,false)
 else(b.AO.C6 t,false)
def Ri(b:BS)(t:Dv):BS×Bool:=if b.has [aWX] then({b with mode:=19},decide (t.name=aWS)) else(b,false)
def GP(b:BS)(t:Dv):BS:=if b.has [t.name] then b.Dt t.name [] else b
def IP(b:BS):BS:=if b.has Da then{b with Au:=DN C8 (AA Da) (DN (Cz []) C8 b.Au)} else b
def J4(b:BS)(t:Dv):BS:=if b.has [t.name] then{b.Dt t.name [] with AW:=EX b.AW} else b
def Oq(b:BS)(sc:Int)(q:Item->Bool):Bool:=Hc q (Gg sc) b.Au.reverse
def Kv(b:BS)(t:Dv):BS:=
 let s:=b.Oq (if t.name=[112] then 3 else if t.name=[108,105] then 2 else 1) (AA [t.name])
 if s then b.Dt t.name t.name
 else if t.name=[112] then(b.C6 (HG [112])).Dt t.name t.name else b
def NA(b:BS)(t:Dv):BS:=
 if b.Ql then b.GP t
 else if b.FJ≠0/\b.Oq 1 (Bq b.FJ) then{b with FJ:=0,Au:=B9 b.FJ (DN (Cz []) C8 b.Au)}
 else{b with FJ:=0}
def NT(b:BS)(t:Dv):BS×Bool:=
 if t.name=AF then b.Dh t
 else if t.name∈QB then b.Ri t
 else if t.name∈UW then(b.GP t,false)
 else if t.name∈Å then(b.Du t.name,false)
 else if t.name∈Da then(b.IP,false)
 else if t.name∈ZR then(b.J4 t,false)
 else if t.name∈cF then(b.Kv t,false)
 else if t.name=aXn then(b.NA t,false)
 else if t.name=[98,114] then(b.empty (HG [98,114]),false)
 else(b.Dg t.name,false)
def M2(b:BS)(t:Dv):BS×Bool:=
 if¬t.ok then(b,false)
 else if t.k=5 then(b.M1 t,false)
 else if t.k=4 then(b.DA t.data 0,false)
 else if t.k=6 then(if 0<b.tm.length then b.Ei t else({b with stop:=true},false))
 else if t.k=2 then b.opens t
 else if t.k=3 then b.NT t
 else(b,false)
def apply(DH:Dv->Bool)(b:BS)(t:Dv):BS×Bool:=
 if¬t.ok then(b,false)
 else if b.mode=1 then b.Ls DH t
 else if b.mode=2 then b.Hj t
 else if b.mode=3 then b.Hk t
 else if b.mode=4 then b.Dh t
 else if b.mode=5 then b.Hl t
 else if b.mode=6 then b.HH t
 else if b.mode=7 then b.M2 t
 else if b.mode=8 then b.Ma t
 else if b.mode=18 then b.Ei t
 else(b,false)
end BS
structure Gz(b:BS)(n o a:Nat):Prop where
 ok:Fa b
 rm:Cw b n
 Au:b.Au.length<=o
 AW:b.AW.length<=a
structure Dv.Sm(t:Dv):Prop where
 name:t.name.length<=1000
 Aq:Fx t.Aq
 data:t.data.length<=1000
 r: -2147483648<=t.r/\t.r<=2147483647
structure M3(b:BS):Prop where
 has:b.a.has b.head
 kind:(b.a.nd b.head).kind=4
 AX:(b.a.nd b.head).AX=1
 name:(b.a.nd b.head).name=aWW
 no:b.head∉b.Au.map Item.node
section
variable{b b':BS}{n n' o o' a a':Nat}{nm:Ad}{l:List A9}{t:Dv}{sp:Int}
def Gz.le(g:Gz b n o a)(h1:n'<=n)(h2:o<=o')(h3:a<=a'):Gz b n' o' a':=⟨g.ok,g.rm.le h1,Bn g.Au h2,Bn g.AW h3⟩
def Gz.ite{c:Prop}[Decidable c]{x y:BS×Bool}(h1:Gz x.1 n o a)(h2:Gz y.1 n o a):Gz (if c then x else y).1 n o a:=by split;exact h1;exact h2
def Gz.aFG{d c:Prop}[Decidable d][Decidable c]{x y:BS×Bool}(h1:Gz x.1 n o a)(h2:Gz y.1 n o a):Gz (if d then x else if c then x else y).1 n o a:= .ite h1 (.ite h1 h2)
def Gz.aJx{e d c:Prop}[Decidable e][Decidable d][Decidable c]{x y:BS×Bool}(h1:Gz x.1 n o a)(h2:Gz y.1 n o a):Gz (if e then x else if d then x else if c then x else y).1 n o a:= .ite h1 (.aFG h1 h2)
def Gz.Ç{f e d c:Prop}[Decidable f][Decidable e][Decidable d][Decidable c]{x y:BS×Bool}(h1:Gz x.1 n o a)(h2:Gz y.1 n o a):Gz (if f then x else if e then x else if d then x else if c then x else y).1 n o a:= .ite h1 (.aJx h1 h2)
def Gz.dn(g:Gz b n o a)(h:n'<=n):Gz b n' o a:=g.le h (Ab _) (Ab _)
def Gz.Nf(g:Gz b (n+4) o a)(hl:Fx l)(hn:nm.length<=1000):Gz (b.CX nm l sp) n (o+1) a:=by
 refine⟨Yo g.ok,Qq g.rm hl hn,?_,by rw[Gi];exact g.AW⟩;have:=g.Au;unfold BS.CX;split
 .rename_i hs;have e:(b.HL nm l sp (b.place 0).1).Au=b.Au:=by unfold BS.HL;rw[if_pos hs]
  simp only[e,Ai,AR];omega
 .omega
def Gz.eq{c:BS}(g:Gz b n o a)(h1:c.a=b.a)(h2:c.CB=b.CB)(h3:c.Au=b.Au)(d:c.AW=b.AW)(e:c.tm=b.tm):Gz c n o a:=
 ⟨g.ok.of_eq h1 h2 h3 d,g.rm.eq h1 h3 d e,by rw[h3];exact g.Au,by rw[d];exact g.AW⟩
def Gz.sub(g:Gz b n o a){lo:List Item}{lc:List B2}{lt:List Int}(h1:lo.Sublist b.Au)(h2:lc.Sublist b.AW)(h3:lt.length<=b.tm.length):Gz {b with Au:=lo,AW:=lc,tm:=lt} n o a:=
 ⟨((g.ok.Ka h1).fD (by exact h2)).of_eq rfl rfl rfl rfl,g.rm.sub rfl h1 h2 h3,Bn h1.length_le g.Au,Bn h2.length_le g.AW⟩
def Gz.Ka(g:Gz b n o a){lo:List Item}(h1:lo.Sublist b.Au):Gz {b with Au:=lo} n o a:=g.sub h1 (BK _) (Ab _)
def Gz.Fw(g:Gz b (n+5) o a)(hl:Fx l)(hn:nm.length<=1000):Gz (b.Fw nm l) n (o+1) (a+1):=by
 have g1:=(g.le (n':=n+1+4) (by omega) (Ab _) (Ab _)).Nf (sp:=1) hl hn;refine⟨bQ g.ok,mW g.rm hl hn,g1.Au,?_⟩;unfold BS.Fw;simp only
 obtain⟨l',h1,h2⟩:=Tx (l:=(b.CX nm l 1).AW) (e:=⟨b.a.len+1,nm,l⟩);rw[h2,Ai,AR];have:=h1.length_le;have:=g1.AW;omega
def Gz.AO(g:Gz b (n+4*a) o a):Gz b.AO n (o+a) a:=by have h1:=g.AW;have h2:=g.Au;have h:=iI (m:=n) (g.rm.le (by omega));exact⟨Yr g.ok,h.1,by omega,by omega⟩
def Gz.Du(g:Gz b (n+8*(4*(o+8)+10)) o a):Gz (b.Du nm) n (o+8) (a+8):=by
 refine⟨bV g.ok,?_,?_,?_⟩<;>unfold BS.Du<;>split
 .unfold BS.Gs;split;.exact g.rm.le (by omega)
  .exact(g.rm.Ka (Ca _ _)).le (by omega)
 .exact(Qw g.Au g.rm).1
 .have:=g.Au;unfold BS.Gs;split;.omega
  .simp only[Av];omega
 .exact(Qw g.Au g.rm).2
 .have:=g.AW;unfold BS.Gs;split<;>(try simp only)<;>omega
 .have:=g.AW;have:=YP (n:=8) (b:=b) (nm:=nm);omega
def Gz.Mo(g:Gz b (n+5) o a){r:Int}:Gz (b.Mo r) n o a:=⟨xA g.ok,nM g.rm (nG _),g.Au,g.AW⟩
def Gz.DA(g:Gz b (n+5) o a){s:Ad}(hs:s.length<=1000){p:Int}:Gz (b.DA s p) n o a:=by
 refine⟨Yq g.ok,?_,g.Au,g.AW⟩;unfold BS.DA;split;.exact Qx g.rm (by omega)
 .exact Qx g.rm (by omega)
def Gz.GN(g:Gz b (n+1000) o a)(hl:Fx l){h:Int}:Gz (b.GN l h) n o a:=by
 refine⟨mV g.ok,tL g.rm hl.1,?_,?_⟩<;>unfold BS.GN<;>split;.exact g.Au
 .exact g.Au
 .exact g.AW
 .exact g.AW
def Gz.Gs(g:Gz b n o a):Gz b.Gs n o a:=by
 unfold BS.Gs;split;.exact g
 .exact g.Ka (Ca _ _)
def Gz.Dt(g:Gz b n o a){x:Ad}:Gz (b.Dt nm x) n o a:=g.Ka (C5.trans C5)
def Gz.Cs(g:Gz b n o a):Gz b.Cs n o a:=by
 unfold BS.Cs;split;.exact g.Ka (C5.trans C5)
 .exact g
def Gz.Dg(g:Gz b n o a):Gz (b.Dg nm) n o a:=by
 unfold BS.Dg;split
 .split;.exact g.Ka (IL.trans C5)
  .exact g
 .exact g
def Gz.Js(g:Gz b n o a):Gz b.Js n o a:=g.eq rfl rfl rfl rfl rfl
def Gz.mark(g:Gz b (n+1) o a):Gz {b with AW:=b.AW++[B2.zero]} n o (a+1):=by
 refine⟨iH g.ok,g.rm.aBo (e:=B2.zero) (by simp) (λe he=>?_) ⟨by decide,by decide,λa ha=>by cases ha⟩,g.Au,?_⟩
 .rcases Aj.1 he with he|he
  .exact .inl he
  .exact .inr (by simpa using he)
 .have:=g.AW;simp only[Ai,AR];omega
def Gz.tm(g:Gz b (n+1) o a){m:Int}:Gz {b with tm:=b.tm++[m]} n o a:=by have r:=g.rm;have c:=r.le (m':=n) (by omega);exact⟨g.ok.of_eq rfl rfl rfl rfl,⟨c.n,c.at_,c.data,c.Au,c.AW,by have:=r.tm;simp only[Ai,AR];omega,c.D0,c.o7⟩,g.Au,g.AW⟩
def Gz.CN(g:Gz b n o a):Gz b.CN n o a:=by
 unfold BS.CN;split;.exact g
 .exact(g.sub (lo:=DN C8 (AA [AF]) (DN Eh C8 b.Au)) (lc:=EX b.AW) (lt:=b.tm.dropLast) (C5.trans C5) (Ca _ _) (by simp)).Js
def Gz.Df(g:Gz b (n+4) o a){s:Int}(hl:Fx l)(hn:nm.length<=1000):Gz (b.Df nm l s) n (o+1) a:=(g.Nf (sp:=1) hl hn).eq rfl rfl rfl rfl rfl
def Gz.C6(g:Gz b (n+4) o a)(ht:t.Sm):Gz (b.C6 t) n (o+1) a:=g.Nf ht.Aq ht.name
def Iu(h:nm.length<=1000):(HG nm).Sm:=⟨h,⟨show([]:List A9).length<=1000 by decide,λa ha=>by cases ha⟩,show([]:Ad).length<=1000 by decide,show(-2147483648:Int)<=0/\(0:Int)<=2147483647 by decide⟩
def Gz.GO(g:Gz b (n+4) o a)(ht:t.Sm):Gz (b.GO t) n (o+1) a:=(g.C6 ht).Gs
def Gz.Jb(g:Gz b (n+1000) o a)(ht:t.Sm):Gz (b.Jb t) n o a:=by
 unfold BS.Jb;split;.exact g.le (by omega) (Ab _) (Ab _)
 .exact g.GN ht.Aq
def Gz.Dh(g:Gz b (n+1004) o a)(ht:t.Sm):Gz (b.Dh t).1 n (o+1) (a+1):=by have g0:Gz b n (o+1) (a+1):=g.le (by omega) (by omega) (by omega);have d:Gz b (n+4) o a:=g.le (by omega) (by omega) (by omega);unfold BS.Dh;refine .Ç g0 (.ite ((g.le (n':=n+5) (by omega) (Ab _) (Ab _)).Mo.le (Ab _) (by omega) (by omega)) (.ite (((g.le (n':=n+5) (by omega) (Ab _) (Ab _)).DA ht.data).le (Ab _) (by omega) (by omega)) (.ite (((g.le (n':=n+1000) (by omega) (Ab _) (Ab _)).Jb ht).le (Ab _) (by omega) (by omega)) (.ite ((d.GO ht).le (Ab _) (by omega) (by omega)) (.ite ((d.Df ht.Aq ht.name).le (Ab _) (by omega) (by omega)) (.ite ((d.Df ht.Aq ht.name).le (Ab _) (by omega) (by omega)) (.ite ((d.Df ht.Aq ht.name).le (Ab _) (by omega) (by omega)) (.ite (((d.C6 ht).le (Ab _) (by omega) (by omega)).eq rfl rfl rfl rfl rfl) (.ite ((d.Gs.le (by omega) (by omega) (by omega)).eq rfl rfl rfl rfl rfl) (.ite ?_ (.ite (d.CN.le (by omega) (by omega) (by omega)) ((d.Gs.le (by omega) (by omega) (by omega)).eq (c:={b.Gs with mode:=6}) rfl rfl rfl rfl rfl))))))))))));exact((((g.le (n':=n+2+4) (by omega) (Ab _) (Ab _)).C6 ht).mark.tm (m:=18)).eq rfl rfl rfl rfl rfl)
def Gz.Hl(g:Gz b (n+1004) o a)(ht:t.Sm):Gz (b.Hl t).1 n (o+1) (a+1):=by have g0:Gz b n (o+1) (a+1):=g.le (by omega) (by omega) (by omega);unfold BS.Hl;exact .Ç g0 (.ite (((g.le (n':=n+1000) (by omega) (Ab _) (Ab _)).Jb ht).le (Ab _) (by omega) (by omega)) (.ite (g0.Gs.eq rfl rfl rfl rfl rfl) (.aJx (g.Dh ht) (g0.Gs.eq (c:={b.Gs with mode:=4}) rfl rfl rfl rfl rfl))))
def Gz.push(g:Gz b (n+1) o a)(c:M3 b):Gz {b with Au:=b.Au++[BS.EM b.head]} n (o+1) a:=by have Zl:=g.ok.ň (i:=BS.EM b.head) (k:=b.Au.length) ⟨c.has,c.kind,c.AX,c.name⟩ c.no;rw[Bf,E7] at Zl;have d:=g.rm.aBn (i:=BS.EM b.head) (l':=b.Au++[BS.EM b.head]) (by simp) (λj hj=>by simpa using hj) (show(aWW:Ad).length<=1000 by decide);exact⟨Zl,d,by have:=g.Au;simp only[Ai,AR];omega,g.AW⟩
def Gz.Ii(g:Gz b (n+1005) o a)(c:M3 b)(ht:t.Sm):Gz (b.Ii t).1 n (o+2) (a+1):=by have g2:=((Gz.push (n:=n+1004) g c).Dh ht).Ka (lo:=B9 b.head (BS.Dh {b with Au:=b.Au++[BS.EM b.head]} t).1.Au) Eo;unfold BS.Ii;exact g2
def Gz.HH(g:Gz b (n+1005) o a)(e:M3 b)(ht:t.Sm):Gz (b.HH t).1 n (o+2) (a+1):=by have g0:Gz b n (o+2) (a+1):=g.le (by omega) (by omega) (by omega);have d:Gz b (n+4) o a:=g.le (by omega) (by omega) (by omega);unfold BS.HH;exact .Ç g0 (.ite ((g.le (n':=n+5) (by omega) (Ab _) (Ab _)).Mo.le (Ab _) (by omega) (by omega)) (.ite (((g.le (n':=n+5) (by omega) (Ab _) (Ab _)).DA ht.data).le (Ab _) (by omega) (by omega)) (.ite (((g.le (n':=n+1000) (by omega) (Ab _) (Ab _)).Jb ht).le (Ab _) (by omega) (by omega)) (.ite (((d.C6 ht).le (Ab _) (by omega) (by omega)).eq rfl rfl rfl rfl rfl) (.ite (((d.C6 ht).le (Ab _) (by omega) (by omega)).eq rfl rfl rfl rfl rfl) (.ite (g.Ii e ht) (.ite (((g.le (n':=n+1004) (by omega) (Ab _) (Ab _)).Dh ht).le (Ab _) (by omega) (by omega)) (((d.C6 (Iu (nm:=aWX) (by decide))).le (Ab _) (by omega) (by omega)).eq (c:={b.C6 (HG aWX) with mode:=7}) rfl rfl rfl rfl rfl))))))))
def Gz.Ma(g:Gz b (n+5) o a):Gz (b.Ma t).1 n o a:=by have g0:Gz b n o a:=g.le (by omega) (by omega) (by omega);unfold BS.Ma;exact .ite g0 (.ite g.Mo (.ite (g0.Gs.eq (c:={b.Gs with mode:=b.GM}) rfl rfl rfl rfl rfl) (.ite (g0.Gs.eq (c:={b.Gs with mode:=b.GM}) rfl rfl rfl rfl rfl) g0)))
def Gz.M1(g:Gz b (n+4*a+5) o a):Gz (b.M1 t) n (o+a) a:=by
 have g1:Gz (b.AO.Mo t.r) n (o+a) a:=(g.le (n':=n+5+4*a) (by omega) (Ab _) (Ab _)).AO.Mo;unfold BS.M1;split;.exact g.le (by omega) (by omega) (Ab _)
 .split;.exact g1
  .exact g1.eq rfl rfl rfl rfl rfl
def Gz.QC(g:Gz b n o a):Gz b.QC.1 n o a:=by
 unfold BS.QC;split;.exact(g.sub (lo:=DN C8 (AA [AF]) b.Au) (lc:=EX b.AW) (lt:=b.tm.dropLast) C5 (Ca _ _) (by simp)).Js
 .exact g.eq rfl rfl rfl rfl rfl
def Gz.EZ(g:Gz b (n+1) o a){m:Int}:Gz (b.EZ m).1 n o a:=by have g1:=(g.sub (lo:=b.Au) (lc:=b.AW) (lt:=b.tm.dropLast) (BK _) (BK _) (by simp)).tm (m:=m);exact g1.eq rfl rfl rfl rfl rfl
def Gz.Ei(g:Gz b (n+4*a+1005) o a)(ht:t.Sm):Gz (b.Ei t).1 n (o+a+1) (a+1):=by have g0:Gz b n (o+a+1) (a+1):=g.le (by omega) (by omega) (by omega);have gf:∀m,Gz (b.EZ m).1 n (o+a+1) (a+1):=λm=>(g.le (n':=n+1) (by omega) (Ab _) (Ab _)).EZ.le (Ab _) (by omega) (by omega);unfold BS.Ei;exact .ite g0 (.ite ((g.le (n':=n+4*a+5) (by omega) (Ab _) (Ab _)).M1.le (Ab _) (by omega) (by omega)) (.ite (((g.le (n':=n+5) (by omega) (Ab _) (Ab _)).DA ht.data).le (Ab _) (by omega) (by omega)) (.ite g0 (.aFG (((g.le (n':=n+1004) (by omega) (Ab _) (Ab _)).Dh ht).le (Ab _) (by omega) (by omega)) (.ite (gf 9) (.ite (gf 12) (.ite (gf 13) (.ite (gf 14) (.ite (gf 7) (.ite g0 g0.QC))))))))))
def Gz.block(g:Gz b (n+4) o a)(ht:t.Sm):Gz (b.block t) n (o+1) a:=g.Cs.C6 ht
def Gz.Kt(g:Gz b (n+4) o a)(ht:t.Sm):Gz (b.Kt t) n (o+1) a:=by
 unfold BS.Kt;refine Gz.C6 ?_ ht;split;.exact g.Cs.Gs
 .exact g.Cs
def Gz.Kd(g:Gz b (n+4) o a)(ht:t.Sm):Gz (b.Kd t) n (o+1) a:=(g.block ht).eq rfl rfl rfl rfl rfl
def Gz.QD(g:Gz b (n+4) o a)(ht:t.Sm):Gz (b.QD t) n (o+1) a:=by
 unfold BS.QD;split;.exact g.le (by omega) (by omega) (Ab _)
 .simp only;split;.exact g.Cs.C6 ht
  .exact(g.Cs.C6 ht).eq rfl rfl rfl rfl rfl
def Gz.HP(g:Gz b n o a){ws:List Ad}:Gz (b.HP ws) n o a:=by
 unfold BS.HP;split
 .split;.exact g.Dt
  .exact g
 .exact g
def Gz.YS(g:Gz b (n+4) o a)(ht:t.Sm):Gz (b.YS t) n (o+1) a:=(g.eq (c:={b with fs:=false}) rfl rfl rfl rfl rfl).HP.block ht
def Gz.NR(g:Gz b (n+4*a+4) o a)(ht:t.Sm):Gz (b.NR t) n (o+a+1) a:=by
 have g1:Gz (if b.has [aWV] then b.Dt aWV [] else b) (n+4+4*a) o a:=by
  split;.exact g.Dt.le (by omega) (Ab _) (Ab _)
  .exact g.le (by omega) (Ab _) (Ab _)
 exact(g1.AO.C6 ht).eq rfl rfl rfl rfl rfl
def Gz.Æ(g:Gz b (n+4*a+5) o a)(ht:t.Sm):Gz (b.Æ t) n (o+a+1) (a+1):=((g.le (n':=n+5+4*a) (by omega) (Ab _) (Ab _)).AO.Fw ht.Aq ht.name)
def LP{l:List B2}{x:Int}:(BS.JD l x).Sublist l:=by
 unfold BS.JD;split;.exact BK _
 .exact CA
def Gz.RS(g:Gz b (n+8*(4*(o+8)+10)) o a):Gz b.RS n (o+8) (a+8):=by
 unfold BS.RS;simp only;split;.exact g.le (by omega) (by omega) (by omega)
 .exact g.Du.sub Eo LP (Ab _)
def Gz.iP(g:Gz b (n+8*(4*(o+8)+10)+4*(a+8)+5) o a)(ht:t.Sm):Gz (b.iP t) n (o+a+17) (a+9):=
 (Gz.Æ ((g.le (n':=n+4*(a+8)+5+8*(4*(o+8)+10)) (by omega) (Ab _) (Ab _)).RS) ht).le (Ab _) (by omega) (Ab _)
def Gz.ZT(g:Gz b (n+8*(4*(o+a+8)+10)+8*a+100) o a)(ht:t.Sm):Gz (b.ZT t) n (o+2*a+17) (a+9):=by
 have g1:Gz b.AO (n+5+4*(a+8)+8*(4*(o+a+8)+10)) (o+a) a:=(g.le (by omega) (Ab _) (Ab _)).AO;have g2:Gz (if b.AO.has [aXk] then(b.AO.Du aXk).AO else b.AO) (n+5) (o+a+8+(a+8)) (a+8):=by
  split;.exact g1.Du.AO
  .exact g1.le (by omega) (by omega) (by omega)
 exact(g2.Fw ht.Aq ht.name).le (Ab _) (by omega) (Ab _)
def Gz.BP(g:Gz b (n+4*a+5) o a)(ht:t.Sm):Gz (b.BP t) n (o+a+1) (a+1):=
 (((g.le (n':=n+1+4+4*a) (by omega) (Ab _) (Ab _)).AO.C6 ht).mark).eq rfl rfl rfl rfl rfl
def Gz.Sw(g:Gz b (n+4) o a)(ht:t.Sm):Gz (b.Sw t) n (o+1) a:=by
 have g1:Gz (if(b.a.nd b.CB).DH then b else b.Cs) (n+4) o a:=by
  split;.exact g
  .exact g.Cs
 exact(g1.C6 ht).eq rfl rfl rfl rfl rfl
def Dv.Sm.rn(ht:t.Sm)(h:nm.length<=1000):({t with name:=nm}:Dv).Sm:=⟨h,ht.Aq,ht.data,ht.r⟩
def Gz.empty(g:Gz b (n+4*a+4) o a)(ht:t.Sm):Gz (b.empty t) n (o+a+1) a:=by
 have d:Gz b (n+4) o a:=g.le (by omega) (Ab _) (Ab _);have c:Gz b.AO (n+4) (o+a) a:=(g.le (by omega) (Ab _) (Ab _)).AO;unfold BS.empty;split;.exact((d.Cs.GO ht).le (Ab _) (by omega) (Ab _)).eq rfl rfl rfl rfl rfl
 .split;.exact((d.GO ht).le (Ab _) (by omega) (Ab _)).eq rfl rfl rfl rfl rfl
  .split;.exact(c.GO ht).eq rfl rfl rfl rfl rfl
   .exact(c.GO (ht.rn (by split;exact(by decide);exact ht.name))).eq rfl rfl rfl rfl rfl
def Gz.ZU(g:Gz b (n+4*a+4) o a)(ht:t.Sm):Gz (b.ZU t) n (o+a+1) a:=by
 have d:Gz b (n+4) o a:=g.le (by omega) (Ab _) (Ab _);have e:Gz b.Cs.AO (n+4) (o+a) a:=(g.Cs.le (by omega) (Ab _) (Ab _)).AO;unfold BS.ZU;split;.exact((d.block ht).le (Ab _) (by omega) (Ab _)).eq rfl rfl rfl rfl rfl
 .split;.exact((d.Df (s:=2) ht.Aq ht.name).le (Ab _) (by omega) (Ab _)).eq rfl rfl rfl rfl rfl
  .split;.exact(e.eq (c:={b.Cs.AO with fs:=false}) rfl rfl rfl rfl rfl).Df ht.Aq ht.name
   .split;.exact((d.eq (c:={b with fs:=false}) rfl rfl rfl rfl rfl).Df ht.Aq ht.name).le (Ab _) (by omega) (Ab _)
    .exact(d.Df ht.Aq ht.name).le (Ab _) (by omega) (Ab _)
def Gz.UX(g:Gz b (n+4*a+4) o a)(ht:t.Sm):Gz (b.UX t) n (o+a+1) a:=
 ((g.le (n':=n+4+4*a) (by omega) (Ab _) (Ab _)).AO.C6 ht).eq rfl rfl rfl rfl rfl
def Gz.NS(g:Gz b (n+4*a+4) o a)(ht:t.Sm):Gz (b.NS t) n (o+a+1) a:=by
 have g1:Gz (if AA [aXb] (En b.Au) then b.Gs else b) (n+4+4*a) o a:=by
  split;.exact g.Gs.le (by omega) (Ab _) (Ab _)
  .exact g.le (by omega) (Ab _) (Ab _)
 exact g1.AO.C6 ht
def Gz.YT(g:Gz b (n+4) o a)(ht:t.Sm):Gz (b.YT t) n (o+1) a:=by
 unfold BS.YT;refine Gz.C6 ?_ ht;split;.exact g.Ka C5
 .exact g
def Gz.Ku(g:Gz b (n+4*a+4) o a)(ht:t.Sm):Gz (b.Ku t) n (o+a+1) a:=by
 have g1:=(g.le (n':=n+4+4*a) (by omega) (Ab _) (Ab _)).AO.Nf (sp:=if t.name=aXY then 3 else 2) ht.Aq ht.name;unfold BS.Ku;simp only;split;.exact g1.Gs
 .exact g1
def VJ(h:b.L9=true):DT b.Au 1∈b.Au:=by unfold BS.L9 at h;simp only[A4,Ci] at h;exact K0 (by decide) (by have:=h.1;omega)
def nV{x:Int}:NP b.a (b.a.cut x):=by
 unfold Ar.cut;simp only;split;.exact .refl
 .exact NP.trans UJ UK
def Gz.J3(g:Gz b (n+4) o a)(ht:t.Sm):Gz (b.J3 t) n (o+1) a:=by
 unfold BS.J3;split;.exact g.le (by omega) (by omega) (Ab _)
 .rename_i h;have h2:b.L9=true:=by
   cases hs:b.L9;.exact absurd (.inl hs) h
   .rfl
  have hi:=g.ok.op _ (VJ h2);have g1:Gz {b with a:=b.a.cut (DT b.Au 1).node} (n+4) o a:=⟨g.ok.IK (eY g.ok.ok hi.1 (by rw[hi.2.1];decide)) sB,g.rm.IK nV,g.Au,g.AW⟩;exact((g1.Ka (lo:=b.Au.take 1) (Ca _ _)).C6 ht).eq rfl rfl rfl rfl rfl
def Gz.La(g:Gz b (n+1000) o a)(ht:t.Sm):Gz (b.La t) n o a:=by
 have g0:Gz b n o a:=g.le (by omega) (Ab _) (Ab _);unfold BS.La;split;.exact g0
 .split;.exact g.GN ht.Aq
  .split;.exact(g.eq (c:={b with fs:=false}) rfl rfl rfl rfl rfl).GN ht.Aq
   .exact g0
def Gz.opens(g:Gz b (n+8*(4*(o+a+8)+10)+8*a+2000) o a)(ht:t.Sm):Gz (b.opens t).1 n (o+2*a+17) (a+9):=by
 have ge:∀{m},m<=n+8*(4*(o+a+8)+10)+8*a+2000->Gz b m o a:=λh=>g.le h (Ab _) (Ab _);unfold BS.opens;exact .ite (((ge (by omega)).Dh ht).le (Ab _) (by omega) (by omega))
  (.ite (((ge (by omega)).block ht).le (Ab _) (by omega) (by omega))
  (.ite (((ge (by omega)).Kt ht).le (Ab _) (by omega) (by omega))
  (.ite (((ge (by omega)).Kd ht).le (Ab _) (by omega) (by omega))
  (.ite (((ge (by omega)).Æ ht).le (Ab _) (by omega) (by omega))
  (.ite (((ge (by omega)).BP ht).le (Ab _) (by omega) (by omega))
  (.ite (((ge (by omega)).empty ht).le (Ab _) (by omega) (by omega))
  (.ite (ge (m:=n) (by omega) |>.le (Ab _) (by omega) (by omega))
  (.ite (((ge (by omega)).ZU ht).le (Ab _) (by omega) (by omega))
  (.ite (((ge (by omega)).YT ht).le (Ab _) (by omega) (by omega))
  (.ite (((ge (by omega)).Ku ht).le (Ab _) (by omega) (by omega))
  (.ite (((ge (by omega)).YS ht).le (Ab _) (by omega) (by omega))
  (.ite (((ge (by omega)).NS ht).le (Ab _) (by omega) (by omega))
  (.ite (((ge (by omega)).La ht).le (Ab _) (by omega) (by omega))
  (.ite (((ge (by omega)).J3 ht).le (Ab _) (by omega) (by omega))
  (.ite (((ge (by omega)).QD ht).le (Ab _) (by omega) (by omega))
  (.ite (((ge (by omega)).NR ht).le (Ab _) (by omega) (by omega))
  (.ite (((ge (by omega)).iP ht).le (Ab _) (by omega) (by omega))
  (.ite (((ge (by omega)).ZT ht).le (Ab _) (by omega) (by omega))
  (.ite (((ge (by omega)).Sw ht).le (Ab _) (by omega) (by omega))
  (.ite (((ge (by omega)).UX ht).le (Ab _) (by omega) (by omega))
  (((ge (m:=n+4+4*a) (by omega)).AO.C6 ht).le (Ab _) (by omega) (by omega))))))))))))))))))))))
def Gz.GP(g:Gz b n o a):Gz (b.GP t) n o a:=by
 unfold BS.GP;split;.exact g.Dt
 .exact g
def Gz.Kv(g:Gz b (n+4) o a):Gz (b.Kv t) n (o+1) a:=by
 have g0:Gz b n (o+1) a:=g.le (by omega) (by omega) (Ab _);unfold BS.Kv;dsimp only;generalize b.Oq _ _=q;cases q
 .by_cases h:t.name=[112];.simp only[Cp,DU,if_pos h];exact(g.C6 (Iu (nm:=[112]) (show([112]:Ad).length<=1000 by decide))).Dt
  .simp only[Cp,DU,if_neg h];exact g0
 .exact g0.Dt
def Gz.NT(g:Gz b (n+8*(4*(o+a+8)+10)+8*a+2000) o a)(ht:t.Sm):Gz (b.NT t).1 n (o+2*a+17) (a+9):=by
 have ge:∀{m},m<=n+8*(4*(o+a+8)+10)+8*a+2000->Gz b m o a:=λh=>g.le h (Ab _) (Ab _);have g0:Gz b n (o+2*a+17) (a+9):=g.le (by omega) (by omega) (by omega);unfold BS.NT;refine .ite (((ge (by omega)).Dh ht).le (Ab _) (by omega) (by omega))
  (.ite ?_ (.ite g0.GP (.ite (((ge (m:=n+8*(4*(o+8)+10)) (by omega)).Du).le (Ab _) (by omega) (by omega))
  (.ite ?_ (.ite ?_ (.ite (((ge (m:=n+4) (by omega)).Kv).le (Ab _) (by omega) (by omega)) (.ite ?_
  (.ite (((ge (m:=n+4*a+4) (by omega)).empty (Iu (nm:=[98,114]) (by decide))).le (Ab _) (by omega) (by omega)) g0.Dg))))))))
 .unfold BS.Ri;split;.exact g0.eq rfl rfl rfl rfl rfl
  .exact g0
 .unfold BS.IP;split;.exact g0.Ka (C5.trans C5)
  .exact g0
 .unfold BS.J4;split;.exact(g0.sub (lo:=(b.Dt t.name []).Au) (lc:=EX b.AW) (lt:=b.tm) (C5.trans C5) (Ca _ _) (Ab _)).eq rfl rfl rfl rfl rfl
  .exact g0
 .unfold BS.NA;split;.exact g0.GP
  .split;.exact(g0.Ka (lo:=B9 b.FJ (DN (Cz []) C8 b.Au)) (Eo.trans C5)).eq rfl rfl rfl rfl rfl
   .exact g0.eq rfl rfl rfl rfl rfl
def Gz.M2(g:Gz b (n+8*(4*(o+a+8)+10)+8*a+2000) o a)(ht:t.Sm):Gz (b.M2 t).1 n (o+2*a+17) (a+9):=by
 have ge:∀{m},m<=n+8*(4*(o+a+8)+10)+8*a+2000->Gz b m o a:=λh=>g.le h (Ab _) (Ab _);have g0:Gz b n (o+2*a+17) (a+9):=g.le (by omega) (by omega) (by omega);unfold BS.M2;exact .ite g0 (.ite (((ge (m:=n+4*a+5) (by omega)).M1).le (Ab _) (by omega) (by omega))
  (.ite (((ge (m:=n+5) (by omega)).DA ht.data).le (Ab _) (by omega) (by omega))
  (.ite (.ite (((ge (m:=n+4*a+1005) (by omega)).Ei ht).le (Ab _) (by omega) (by omega)) (g0.eq rfl rfl rfl rfl rfl))
  (.ite (g.opens ht) (.ite (g.NT ht) g0)))))
def Gz.Sv(g:Gz b n o a):Gz b.Sv n o a:=by have hd:=g.ok.CB;have hk:=g.ok.ok.Ub _ hd.1;refine⟨g.ok.IK (eZ g.ok.ok hd.1 ⟨hk.k,hk.Bv,hk.elem,hk.nm,hk.dt,hk.data,λh=>absurd hd.2 h,hk.sp,hk.xe,hk.Di,hk.Tt,hk.Ol,hk.root,hk.wT⟩ rfl rfl rfl ⟨(g.ok.ok.CB _ hd.1).1,(g.ok.ok.CB _ hd.1).2,g.ok.ok.Yj _ hd.1⟩ rfl rfl λc=>c) (Qo rfl rfl rfl),g.rm.IK (TA rfl rfl),g.Au,g.AW⟩
def Gz.RR(g:Gz b (n+1) o a):Gz (b.RR t) n o a:=by
 have hd:=g.ok.CB;have hx:rU {kind:=3,CB:=b.CB,name:=t.name,Ke:=t.Ke,sys:=t.sys}:=by constructor<;>simp[Di,Gu,eX]
 have Zl:=Qm g.ok.ok hx (.inr ⟨by simp,hd⟩) rfl rfl rfl rfl (λh=>absurd h.1 (show¬(3:Int)=4 by decide));refine⟨g.ok.IK (O0 Zl) (Qn.trans I6),?_,g.Au,g.AW⟩;exact(g.rm.F8 (LJ (y:={kind:=3,CB:=b.CB,name:=t.name,Ke:=t.Ke,sys:=t.sys}) (by simp) (by simp))).IK K5
def Gz.Ls{qk:Dv->Bool}(g:Gz b (n+5) o a)(ht:t.Sm):Gz (b.Ls qk t).1 n o a:=by
 have g0:Gz b n o a:=g.le (by omega) (Ab _) (Ab _);unfold BS.Ls;refine .aFG g0 (.ite (g.DA ht.data) (.ite (g0.Sv.eq (c:={b.Sv with mode:=2}) rfl rfl rfl rfl rfl) ?_));have g1:Gz (b.RR t) n o a:=(g.le (n':=n+1) (by omega) (Ab _) (Ab _)).RR;simp only;split;.exact g1.Sv.eq rfl rfl rfl rfl rfl
 .exact g1.eq rfl rfl rfl rfl rfl
def Gz.Hj(g:Gz b (n+5) o a)(ht:t.Sm):Gz (b.Hj t).1 n (o+1) a:=by have d:Gz b (n+4) o a:=g.le (by omega) (Ab _) (Ab _);unfold BS.Hj;exact .Ç (d.le (by omega) (by omega) (Ab _)) (.ite ((g.DA ht.data).le (Ab _) (by omega) (Ab _)) (.ite ((d.C6 ht).eq rfl rfl rfl rfl rfl) ((d.C6 (Iu (nm:=aWS) (by decide))).eq (c:={b.C6 (HG aWS) with mode:=3}) rfl rfl rfl rfl rfl)))
def Gz.Hk(g:Gz b (n+1000) o a)(ht:t.Sm):Gz (b.Hk t).1 n (o+1) a:=by have d:Gz b (n+4) o a:=g.le (by omega) (Ab _) (Ab _);have e:Gz b (n+5) o a:=g.le (by omega) (Ab _) (Ab _);unfold BS.Hk;exact .Ç (d.le (by omega) (by omega) (Ab _)) (.ite ((e.DA ht.data).le (Ab _) (by omega) (Ab _)) (.ite ((g.Jb ht).le (Ab _) (by omega) (Ab _)) (.ite ((d.C6 ht).eq rfl rfl rfl rfl rfl) ((d.C6 (Iu (nm:=aWW) (by decide))).eq (c:={b.C6 (HG aWW) with head:=b.MQ 1,mode:=4}) rfl rfl rfl rfl rfl))))
def Gz.apply{qk:Dv->Bool}(g:Gz b (n+8*(4*(o+a+8)+10)+8*a+2000) o a)(c:b.mode=6->M3 b)(ht:t.Sm):Gz (b.apply qk t).1 n (o+2*a+17) (a+9):=by
 have ge:∀{m},m<=n+8*(4*(o+a+8)+10)+8*a+2000->Gz b m o a:=λh=>g.le h (Ab _) (Ab _);have g0:Gz b n (o+2*a+17) (a+9):=g.le (by omega) (by omega) (by omega);unfold BS.apply;refine .ite g0 (.ite (((ge (m:=n+5) (by omega)).Ls ht).le (Ab _) (by omega) (by omega))
  (.ite (((ge (m:=n+5) (by omega)).Hj ht).le (Ab _) (by omega) (by omega))
  (.ite (((ge (m:=n+1000) (by omega)).Hk ht).le (Ab _) (by omega) (by omega))
  (.ite (((ge (m:=n+1004) (by omega)).Dh ht).le (Ab _) (by omega) (by omega))
  (.ite (((ge (m:=n+1004) (by omega)).Hl ht).le (Ab _) (by omega) (by omega)) ?_)))))
 split;.rename_i d;exact(((ge (m:=n+1005) (by omega)).HH (c d) ht).le (Ab _) (by omega) (by omega))
 .exact .ite (g.M2 ht)
   (.ite (((ge (m:=n+5) (by omega)).Ma).le (Ab _) (by omega) (by omega))
   (.ite (((ge (m:=n+4*a+1005) (by omega)).Ei ht).le (Ab _) (by omega) (by omega)) g0))
end
structure Zm(m:Nat)(l l':List Item):Prop where
 sp:l'.filter AL=l.filter AL
 Kd:l'.take m=l.take m
section
variable{m k j:Nat}{l l' l'':List Item}{i n:Item}{b:BS}{nm:Ad}{at_:List A9}
def Zm.refl:Zm m l l:=⟨rfl,rfl⟩
def Zm.trans(h:Zm m l l')(g:Zm m l' l''):Zm m l l'':=⟨g.sp.trans h.sp,g.Kd.trans h.Kd⟩
def Zm.le(h:Zm m l l')(hk:k<=m):Zm k l l':=⟨h.sp,by have:=BQ (List.take k) h.Kd;rwa [Cy,Cy,BG hk] at this⟩
def Zm.len(h:Zm m l l')(hm:m<=l.length):m<=l'.length:=by have:=BQ List.length h.Kd;rw[Av,Av] at this;omega
def cG(hm:m<=l.length)(hi:AL i=false):Zm m l (l++[i]):=
 ⟨by rw[Bu,E6 (by simp[hi])];simp,A0 hm⟩
def WO(hm:m<=k)(hk:∀h:k<l.length,AL l[k]=false):Zm m l (Bs l k):=by
 unfold Bs;rcases A6 k l.length with h|h
 .refine⟨?_,?_⟩
  .conv=>rhs;rw[<-Bl k l,Ap h]
   rw[Bu,Bu,E6 (by simp[hk h])]
  .rw[A0 (by rw[Av];omega),Cy,BG hm]
 .rw[A7 h,AH (by omega),A8];exact .refl
def aFH(hm:m<=k)(hk:∀h:k<l.length,AL l[k]=false)(hn:AL n=false):Zm m l (l.set k n):=by
 rw[B0];split
 .rename_i h;refine⟨?_,?_⟩
  .conv=>rhs;rw[<-Bl k l,Ap h]
   rw[Bu,Bu,E6 (a:=n) (by simp[hn]),E6 (by simp[hk h])]
  .rw[A0 (by rw[Av];omega),Cy,BG hm]
 .exact .refl
def dv(hm:m<=j)(hd:∀i∈l.drop j,AL i=false):Zm m l (l.take j):=by
 refine⟨?_,by rw[Cy,BG hm]⟩;conv=>rhs;rw[<-Bl j l]
 have e:(l.drop j).filter AL=[]:=List.filter_eq_nil_iff.2 λi hi=>by simp[hd i hi]
 rw[Bu,e,A8]
def aFI(hm:m<=k)(hk:k<=l.length)(hn:AL n=false):Zm m l (l.take k++n::l.drop k):=by
 refine⟨?_,by rw[A0 (by rw[Av];omega),Cy,BG hm]⟩;conv=>rhs;rw[<-Bl k l]
 rw[Bu,Bu,E6 (by simp[hn])]
def HQ(h:i.AX=1)(hn:i.name∈CM):AL i=false:=by
 have key:∀w∈CM,Dj 1 w=false:=by decide+kernel
 unfold AL;rw[h];exact key _ hn
def aFJ:Å=CM:=rfl
def WQ(A:Ar)(l:List B2):Prop:=∀e∈l,e.node=0\/(e.name∈CM/\(A.nd e.node).name=e.name/\(A.nd e.node).AX=1)
def WQ.sub{A:Ar}{l l':List B2}(h:WQ A l)(hs:l'.Sublist l):WQ A l':=λe he=>h e (hs.subset he)
def WQ.le{A A':Ar}{l:List B2}(h:WQ A l)(hl:Le A A')(ha:∀e∈l,e.node=0\/(A.has e.node/\(A.nd e.node).kind=4)):WQ A' l:=λe he=>by
 rcases h e he with h1|⟨h1,h2,h3⟩
 .exact .inl h1
 .rcases ha e he with a|a
  .exact .inl a
  .exact .inr ⟨h1,by rw[hl.name _ a.1];exact h2,by rw[hl.AX _ a.1];exact h3⟩
def nm1:BS.Nk 1 nm=nm:=if_neg (by decide)
def Ot:(b.IJ nm at_ 1).name=nm:=by unfold BS.IJ;rw[if_pos Lm];exact nm1
def Pd:(b.IJ nm at_ 1).AX=1:=by unfold BS.IJ;rw[if_pos Lm]
def oe{x:Int}{l:List B2}(h:¬Fo x l<0):x≠0/\∃k,k<l.length/\(Fo x l).toNat=k/\(l.getD k B2.zero).node=x/\l.getD k B2.zero∈l:=by
 unfold Fo at h⊢;split at h;.omega
 .rename_i h0;rw[if_neg h0];rcases B8 (q:=VF x) (l:=l) with⟨h1,_⟩|⟨k,hk,h1,h2,_⟩
  .omega
  .refine⟨h0,k,hk,by rw[h1];omega,?_,?_⟩;.rw[AG,An hk];exact BB h2
   .rw[AG,An hk];exact Ay hk
def YU{l:List B2}(h:¬D7 nm l<0):(l.getD (D7 nm l).toNat B2.zero)∈l/\(l.getD (D7 nm l).toNat B2.zero).node≠0/\(l.getD (D7 nm l).toNat B2.zero).name=nm:=by
 have key:∀r:List B2,0<=O1 nm r->∃e a c,r=a++e::c/\O1 nm r=(c.length:Int)/\e.node≠0/\e.name=nm:=by
  intro r;induction r with
  |nil=>intro h;simp[O1] at h
  |cons x t ih=>
   intro h;rw[O1] at h⊢;split at h;.omega
   .rename_i h0;rw[if_neg h0];split at h;.rename_i h1;rw[if_pos h1];exact⟨x,[],t,rfl,rfl,h0,h1⟩
    .rename_i h1;rw[if_neg h1];obtain⟨e,a,c,h2,h3⟩:=ih h;exact⟨e,x::a,c,by rw[h2];rfl,h3⟩
 obtain⟨e,a,c,h1,h2,h3,d⟩:=key l.reverse (by unfold D7 at h;omega);have hl:l=c.reverse++e::a.reverse:=by have:=BQ List.reverse h1;rw[Ds] at this;rw[this];simp
 have hg:l.getD (D7 nm l).toNat B2.zero=e:=by unfold D7;rw[h2,hl,AG,Bi (by simp)];simp
 rw[hg];exact⟨by rw[hl];simp,h3,d⟩
def BS.rs(b:BS):List Int×Int×Int×Int×Int×Bool×Bool×Int:=(b.tm,b.FJ,b.head,b.mode,b.GM,b.D3,b.KH,b.CB)
structure cH(m:Nat)(b c:BS):Prop where
 fm:Zm m b.Au c.Au
 ok:Fa c
 ac:WQ c.a c.AW
 le:Le b.a c.a
 rest:c.rs=b.rs
def cH.refl(o:Fa b)(f:WQ b.a b.AW):cH m b b:=⟨.refl,o,f,.refl,rfl⟩
def cH.trans{b c d:BS}(h:cH m b c)(g:cH m c d):cH m b d:=⟨h.fm.trans g.fm,g.ok,g.ac,h.le.trans g.le,g.rest.trans h.rest⟩
def cH.lem{b c:BS}(h:cH m b c)(hk:k<=m):cH k b c:=⟨h.fm.le hk,h.ok,h.ac,h.le,h.rest⟩
def WQ.aOL{A:Ar}{l:List B2}(h:WQ A l){e:B2}{k:Nat}(he:e.name∈CM/\(A.nd e.node).name=e.name/\(A.nd e.node).AX=1):WQ A (l.set k e):=λx hx=>by
 rcases Dm hx with h1|rfl
 .exact h x h1
 .exact .inr he
def dw{p:Int}:(b.HL nm at_ 1 p).rs=b.rs:=by unfold BS.HL;rw[if_pos Lm];rfl
def dx{p:Int}:(b.HL nm at_ 1 p).Au=b.Au:=by unfold BS.HL;rw[if_pos Lm]
def dy{p:Int}:(b.HL nm at_ 1 p).AW=b.AW:=by unfold BS.HL;rw[if_pos Lm]
def È(o:Fa b)(f:WQ b.a b.AW){blk anc:Int}{far:Nat}{l:Int}{q:Nat}(hl:b.a.has l)(hm:m<=k)(hk:∀h:k<b.Au.length,AL b.Au[k]=false):cH m b (BS.HF blk anc far k b l q).1:=by
 obtain⟨ok,_,le⟩:=Tz (blk:=blk) (anc:=anc) (far:=far) (i:=k) (l:=l) (m:=q) o hl;unfold BS.HF at ok le⊢;simp only at ok le⊢;split at ok;.rename_i h1;rw[if_pos h1] at le⊢;exact⟨WO hm hk,ok,f,le,rfl⟩
 .rename_i h1;rw[if_neg h1] at le⊢;split at ok;.rename_i h2;rw[if_pos h2] at le⊢;exact⟨WO hm hk,ok,f.sub CA,le,rfl⟩
  .rename_i h2;rw[if_neg h2] at le⊢;obtain⟨t,d,e,s,v,r⟩:=oe h1;rw[s] at ok le⊢;generalize b.AW.getD d B2.zero=en at*;have Rb:en.name∈CM:=by
    rcases f en r with h3|h3
    .omega
    .exact h3.1
   obtain⟨u,fr,l1⟩:=VG (nm:=en.name) (at_:=en.Aq) (p:=anc) o Lm;have c:=dw (b:=b) (nm:=en.name) (at_:=en.Aq) (p:=anc);have ea:=dy (b:=b) (nm:=en.name) (at_:=en.Aq) (p:=anc);have g:=dx (b:=b) (nm:=en.name) (at_:=en.Aq) (p:=anc);have hn:=Ot (b:=b) (nm:=en.name) (at_:=en.Aq);have hs:=Pd (b:=b) (nm:=en.name) (at_:=en.Aq);generalize b.IJ en.name en.Aq 1=n at*;generalize b.HL en.name en.Aq 1 anc=b1 at*;have f1:WQ b1.a b1.AW:=by rw[ea];exact f.le l1 o.ac
   have f2:WQ (b1.a.Ip n.node l 0) b1.AW:=f1.le I6 (by rw[ea];exact WA l1 o.ac);refine⟨?_,ok,f2.aOL ⟨Rb,?_,?_⟩,le,c⟩;.simp only;rw[g];exact aFH hm hk (HQ hs (by rw[hn];exact Rb))
   .simp only;rw[I6.name _ fr.has,fr.name,hn]
   .simp only;rw[I6.AX _ fr.has,fr.AX,hs]
def dz{blk anc:Int}{far k:Nat}:∀{c:Nat} {s:BS×Int×Nat},Fa s.1->WQ s.1.a s.1.AW->s.1.a.has s.2.1->(∀j (h:j<s.1.Au.length),k<j->j<=k+c->AL s.1.Au[j]=false)->cH (k+1) s.1 (BS.O2 blk anc far k c s).1
 |0,s,o,f,_,_=> .refl o f
 |c+1,s,o,f,hl,hs=>by
  have a1:=È (m:=k+(c+1)) (k:=k+(c+1)) (blk:=blk) (anc:=anc) (far:=far) (l:=s.2.1) (q:=s.2.2) o f hl (Ab _) (λh=>hs _ h (by omega) (by omega));obtain⟨_,h2,_⟩:=Tz (blk:=blk) (anc:=anc) (far:=far) (i:=k+(c+1)) (l:=s.2.1) (m:=s.2.2) o hl;have a2:=dz (blk:=blk) (anc:=anc) (far:=far) (k:=k) (c:=c) (s:=BS.HF blk anc far (k+(c+1)) s.1 s.2.1 s.2.2) a1.ok a1.ac h2 (λj hj h3 p=>by
   have e:(BS.HF blk anc far (k+(c+1)) s.1 s.2.1 s.2.2).1.Au[j]?=s.1.Au[j]?:=by have:=BQ (λl=>l[j]?) a1.fm.Kd;simpa only[CC (show j<k+(c+1) by omega)] using this
   rw[An hj] at e;obtain⟨g,d⟩:=Af.1 e.symm;rw[<-d];exact hs j g h3 (by omega))
  exact(a1.lem (by omega)).trans a2
def aAj{x:Item}(h:x∈l):∃k,∃h:k<l.length,l[k]=x:=PG h
def YV{x:Int}(hm:m<=l.length)(hs:∀i∈l,i.node=x->AL i=false)(hp:∀i∈l.take m,AL i=true):Zm m l (B9 x l):=by
 unfold B9;split;.exact .refl
 .rename_i h;rcases B8 (q:=Bq x) (l:=l) with⟨h1,_⟩|⟨k,hk,h1,h2,_⟩
  .omega
  .have e:(Ax (Bq x) l).toNat=k:=by rw[h1];omega
   rw[e];have h3:=hs _ (Ay hk) (BB h2);refine WO ?_ λ_=>h3;rcases A6 k m with a|a
   .have:=hp l[k] (C1.2 ⟨k,by omega,rfl⟩);rw[this] at h3;cases h3
   .exact a
def og{fe:B2}{blk anc:Int}{s:BS×Int×Nat}(o:Fa s.1)(f:WQ s.1.a s.1.AW)(hfe:fe.name∈CM)(hl:m<=s.1.Au.length)(hp:∀i∈s.1.Au.take m,AL i=true)(hx:∀i∈s.1.Au,i.node=fe.node->AL i=false)(hb:∃i∈s.1.Au,AL i=true/\i.node=blk)(g:∀i∈s.1.Au.take m,i.node≠blk):cH m s.1 (BS.JN fe blk anc s):=by
 obtain⟨ok,le⟩:=bT (fe:=fe) (blk:=blk) (anc:=anc) (s:=s) o;unfold BS.JN at ok le⊢;simp only at ok le⊢;generalize qv:s.1.place anc=pb at*;have l1:Le s.1.a (s.1.a.Gr s.2.1 pb.1 pb.2):=JC;have A:=o.IK (Q9 (n:=s.2.1) (p:=pb.1) (b:=pb.2) o.ok) l1;have f1:WQ (s.1.a.Gr s.2.1 pb.1 pb.2) s.1.AW:=f.le l1 o.ac;have B:({s.1 with a:=s.1.a.Gr s.2.1 pb.1 pb.2}:BS).tm=s.1.tm/\({s.1 with a:=s.1.a.Gr s.2.1 pb.1 pb.2}:BS).Au=s.1.Au/\({s.1 with a:=s.1.a.Gr s.2.1 pb.1 pb.2}:BS).AW=s.1.AW:=⟨rfl,rfl,rfl⟩;obtain⟨z,fr,l3⟩:=VG (nm:=fe.name) (at_:=fe.Aq) (p:=blk) A Lm;have y:=dw (b:={s.1 with a:=s.1.a.Gr s.2.1 pb.1 pb.2}) (nm:=fe.name) (at_:=fe.Aq) (p:=blk);have ea:=dy (b:={s.1 with a:=s.1.a.Gr s.2.1 pb.1 pb.2}) (nm:=fe.name) (at_:=fe.Aq) (p:=blk);have w:=dx (b:={s.1 with a:=s.1.a.Gr s.2.1 pb.1 pb.2}) (nm:=fe.name) (at_:=fe.Aq) (p:=blk);have hn:=Ot (b:={s.1 with a:=s.1.a.Gr s.2.1 pb.1 pb.2}) (nm:=fe.name) (at_:=fe.Aq);have hs:=Pd (b:={s.1 with a:=s.1.a.Gr s.2.1 pb.1 pb.2}) (nm:=fe.name) (at_:=fe.Aq);have v:Le s.1.a (BS.HL {s.1 with a:=s.1.a.Gr s.2.1 pb.1 pb.2} fe.name fe.Aq 1 blk).a:=l1.trans l3;have f3:WQ (BS.HL {s.1 with a:=s.1.a.Gr s.2.1 pb.1 pb.2} fe.name fe.Aq 1 blk).a s.1.AW:=f.le v o.ac;generalize BS.IJ {s.1 with a:=s.1.a.Gr s.2.1 pb.1 pb.2} fe.name fe.Aq 1=n at*;generalize BS.HL {s.1 with a:=s.1.a.Gr s.2.1 pb.1 pb.2} fe.name fe.Aq 1 blk=c at*;simp only at ea w;have u:=WA v o.ac;obtain⟨_,l4⟩:=LI (n:=n.node) (l:=(c.a.nd blk).Bv) z.ok;have d:Le c.a ((BS.Dx c.a n.node (c.a.nd blk).Bv).Ip blk n.node 0):=l4.trans I6;have f5:=f3.le d u;have g1:=YV (x:=fe.node) hl hx hp;have t:∃i∈B9 fe.node s.1.Au,AL i=true/\i.node=blk:=by
  obtain⟨i,h1,h2,h3⟩:=hb;have:i∈(B9 fe.node s.1.Au).filter AL:=by rw[g1.sp];exact BV.2 ⟨h1,h2⟩
  exact⟨i,(BV.1 this).1,h2,h3⟩
 have r:m<=HE (Ax (Bq blk) (B9 fe.node s.1.Au)+1) (B9 fe.node s.1.Au).length:=by
  obtain⟨i,h1,h2,h3⟩:=t;obtain⟨k,hk,rfl⟩:=aAj h1;have F:=MZ (q:=Bq blk) hk (Ag h3);have E:=(K4 (q:=Bq blk) (l:=B9 fe.node s.1.Au)).1;have D:=g1.len hl;have C:m<=k:=by
   rcases A6 k m with h|h
   .exfalso;refine g (B9 fe.node s.1.Au)[k] ?_ h3;rw[<-g1.Kd];exact C1.2 ⟨k,by omega,rfl⟩
   .exact h
  unfold HE;omega
 have g2:=aFI (l:=B9 fe.node s.1.Au) (n:=n) r (Nat.min_le_right _ _) (HQ hs (by rw[hn];exact hfe));refine⟨?_,ok,?_,le,y⟩;.simp only;rw[w];exact g1.trans g2
 .simp only
  rw[ea];intro e he;rcases Aj.1 he with h|h
  .exact f5 e (CA.subset (AZ h))
  .rcases Aw.1 h with rfl|h
   .refine .inr ⟨hfe,?_,?_⟩;.simp only;rw[d.name _ fr.has,fr.name,hn]
    .simp only;rw[d.AX _ fr.has,fr.AX,hs]
   .exact f5 e (CA.subset (Bc h))
def d_{i:Int}(hm:m<=max 1 i.toNat)(h:∀x∈l.drop (max 1 i.toNat),AL x=false):Zm m l (Hd l i):=dv hm h
def oh(o:Fa b)(f:WQ b.a b.AW)(hnm:nm∈CM)(hl:m<=b.Au.length)(hp:∀i∈b.Au.take m,AL i=true):cH m b (b.Dg nm):=by
 have ok:=bS (nm:=nm) o;unfold BS.Dg at ok⊢;split
 .rename_i i hi;rw[hi] at ok;simp only at ok;split
  .rename_i h1;rw[if_pos h1] at ok;obtain⟨A,C,e,_,g⟩:=TO hi;have c:AL i=false:=by have:=BB h1;exact HQ this.1 (by have h2:=this.2;simp at h2;rw[h2];exact hnm)
   have d:∀x∈C,AL x=false:=λx hx=>by have:=g x hx;rw[KC] at this;exact this.2
   have p:m<=A.length:=by
    rcases A6 A.length m with h|h
    .have:=hp i (C1.2 ⟨A.length,by rw[e] at hl⊢;omega,by simp[e]⟩);rw[c] at this;cases this
    .exact h
   have key:∀j,A.length<=j->∀x∈b.Au.drop j,AL x=false:=by
    intro j hj x hx;rw[e] at hx;have Zk:x∈(A++i::C).drop A.length:=by
     have:(A++i::C).drop j=((A++i::C).drop A.length).drop (j-A.length):=by rw[Ed];congr 1;omega
     rw[this] at hx;exact Bc hx
    rw[QQ] at Zk;rcases Aw.1 Zk with rfl|h
    .exact c
    .exact d x h
   refine⟨?_,ok,f,.refl,rfl⟩;simp only
   have Ni:=YR o nm;have r:b.Dg nm={b with Au:=GK i.node (DN (Cz nm) C8 b.Au)}:=by unfold BS.Dg;rw[hi];simp only;rw[if_pos h1]
   rw[r] at Ni;rcases Ni with h|⟨h0,h⟩
   .have:GK i.node (DN (Cz nm) C8 b.Au)=b.Au:=BQ BS.Au h;rw[this];exact .refl
   .have:GK i.node (DN (Cz nm) C8 b.Au)=Hd b.Au (Ax (AA [nm]) b.Au):=BQ BS.Au h;rw[this];have q:(Ax (AA [nm]) b.Au)=(A.length:Int):=by rw[e];exact Hi h1 λx hx=>by have:=g x hx;rw[KC] at this;exact this.1
    rw[q];exact d_ (by omega) (key _ (by omega))
  .exact .refl o f
 .exact .refl o f
def Ou{U:Type}{l:List U}{x:U}{j:Nat}(h:x∈l.drop j):∃k,∃hk:k<l.length,j<=k/\l[k]=x:=by obtain⟨k,hk,e⟩:=PG h;rw[J6] at e;rw[A5] at hk;exact⟨j+k,by omega,by omega,e⟩
def ZV{x:Int}(hk:0<=Ax (Bq x) l):(D6 x l<0/\∀j (h:j<l.length),(Ax (Bq x) l).toNat<j->AL l[j]=false)\/∃j,∃h:j<l.length,D6 x l=(j:Int)/\(Ax (Bq x) l).toNat<j/\AL l[j]=true/\∀q (hq:q<l.length),(Ax (Bq x) l).toNat<q->q<j->AL l[q]=false:=by
 rw[LF,if_neg (by omega)];generalize(Ax (Bq x) l).toNat=k;unfold FX;cases hf:(l.drop (k+1)).findIdx? AL with
 |none=>
  left;refine⟨by simp,λj hj hlt=>?_⟩;rw[List.findIdx?_eq_none_iff] at hf;have:=hf l[j] (by
   have e:l[j]=(l.drop (k+1))[j-(k+1)]'(by rw[A5];omega):=by rw[J6];congr 1;omega
   rw[e];exact Ay _)
  simpa using this
 |some q=>
  right;obtain⟨h1,h2,h3⟩:=List.findIdx?_eq_some_iff_getElem.1 hf;rw[A5] at h1;refine⟨k+1+q,by omega,by simp only;omega,by omega,by rw[J6] at h2;exact h2,λr hr c a=>?_⟩;have:=h3 (r-(k+1)) (by omega);rw[J6] at this;have e:k+1+(r-(k+1))=r:=by omega
  simp only[e] at this;simpa using this
def É(o:Fa b)(f:WQ b.a b.AW)(hnm:nm∈CM)(hl:m<=b.Au.length)(hp:∀i∈b.Au.take m,AL i=true):cH m b (b.round nm).2:=by
 obtain⟨ok,le⟩:=Ys (nm:=nm) o;unfold BS.round at ok le⊢;simp only at ok le⊢;split;.exact oh o f hnm hl hp
 .rename_i h1;rw[if_neg h1] at ok le;obtain⟨C,y,hname⟩:=YU h1;generalize b.AW.getD (D7 nm b.AW).toNat B2.zero=fe at*;split;.rename_i h2;rw[if_pos h2] at ok le;exact⟨.refl,ok,f.sub CA,le,rfl⟩
  .rename_i h2;rw[if_neg h2] at ok le;split;.exact .refl o f
   .rename_i h3;rw[if_neg h3] at ok le;have z:fe.name∈CM:=by rw[hname];exact hnm
    have w:=f fe C;have jR:∀i∈b.Au,i.node=fe.node->AL i=false:=λi hi e=>by
     have p:=o.op i hi;rcases w with g|g
     .exact absurd g y
     .rw[e] at p;exact HQ (by rw[<-p.2.2.1,g.2.2]) (by rw[<-p.2.2.2,g.2.1];exact g.1)
    rcases B8 (q:=Bq fe.node) (l:=b.Au) with⟨p,_⟩|⟨k,hk,p,g,_⟩
    .omega
    have ql:(Ax (Bq fe.node) b.Au).toNat=k:=by rw[p];omega
    have E:m<=k:=by
     rcases A6 k m with h|h
     .have t:=hp b.Au[k] (C1.2 ⟨k,by omega,rfl⟩);rw[jR _ (Ay hk) (BB g)] at t;cases t
     .exact h
    have aFK:=ZV (x:=fe.node) (l:=b.Au) (by omega);rw[ql] at aFK;split
    .rename_i t;rw[if_pos t] at ok le;refine⟨?_,ok,f.sub CA,le,rfl⟩;simp only
     rw[VE,if_neg (by omega),p];rcases aFK with⟨_,v⟩|⟨j,hj,v,_⟩
     .refine d_ (by omega) λx hx=>?_;obtain⟨q,hq,F,rfl⟩:=Ou hx;rcases A6 k q with u|u
      .exact v q hq u
      .have:q=k:=by omega
       subst this;exact jR _ (Ay hk) (BB g)
     .omega
    .rename_i t;rw[if_neg t] at ok le;rcases aFK with⟨v,_⟩|⟨j,hj,v,F,u,ZO⟩
     .omega
     have A:(D6 fe.node b.Au).toNat=j:=by rw[v];omega
     rw[ql,A] at ok le⊢;have B:b.Au.getD j Item.zero=b.Au[j]:=by rw[AG,An hj];rfl
     rw[B] at ok le⊢;generalize(b.Au.getD (k-1) Item.zero).node=anc at*;have a1:=dz (blk:=b.Au[j].node) (anc:=anc) (far:=j) (k:=k) (c:=j-1 -k) (s:=(b,b.Au[j].node,(D7 nm b.AW).toNat)) o f (o.op _ (Ay hj)).1 (λq hq V9 d=>ZO q hq V9 (by omega));generalize BS.O2 b.Au[j].node anc j k (j-1 -k) (b,b.Au[j].node,(D7 nm b.AW).toNat)=s at*;simp only at a1;have a0:=a1.fm.le (k:=m) (by omega);have a2:=og (m:=m) (fe:=fe) (blk:=b.Au[j].node) (anc:=anc) (s:=s) a1.ok a1.ac z (a0.len hl) (by rw[a0.Kd];exact hp) (λi hi e=>by
      have V9:=a1.ok.op i hi;rcases w with d|d
      .exact absurd d y
      .have D:b.a.has fe.node:=by
        rcases o.ac fe C with r|r
        .exact absurd r y
        .exact r.1
       rw[e,a1.le.AX _ D,a1.le.name _ D] at V9;exact HQ (by rw[<-V9.2.2.1,d.2.2]) (by rw[<-V9.2.2.2,d.2.1];exact d.1)) (by
      have:b.Au[j]∈s.1.Au.filter AL:=by rw[a1.fm.sp];exact BV.2 ⟨Ay hj,u⟩
      exact⟨_,(BV.1 this).1,u,rfl⟩) (by
      rw[a0.Kd];intro i hi e;obtain⟨q,hq,rfl⟩:=C1.1 hi;have V9:(b.Au.map Item.node)[q]'(by rw[Ao];omega)=(b.Au.map Item.node)[j]'(by rw[Ao];omega):=by simp only[Ek];exact e
      have:=(List.getElem_inj o.qt).1 V9;omega)
     exact(a1.lem (by omega)).trans a2
def cI(hnm:nm∈CM):∀{n:Nat} {b:BS},Fa b->WQ b.a b.AW->m<=b.Au.length->(∀i∈b.Au.take m,AL i=true)->cH m b (BS.Hg n b nm)
 |0,b,o,f,_,_=> .refl o f
 |n+1,b,o,f,hl,hp=>by
  have a1:=É o f hnm hl hp;unfold BS.Hg;simp only
  split;.exact a1.trans (cI hnm (n:=n) a1.ok a1.ac (a1.fm.len hl) (by rw[a1.fm.Kd];exact hp))
  .exact a1
def cJ(o:Fa b)(f:WQ b.a b.AW)(hnm:nm∈CM)(hl:m<=b.Au.length)(hp:∀i∈b.Au.take m,AL i=true):cH m b (b.Du nm):=by
 have ok:=bV (nm:=nm) o;unfold BS.Du at ok⊢;split
 .rename_i h;rw[if_pos h] at ok;unfold BS.Gs at ok⊢;split;.exact .refl o f
  .rename_i h2;rw[if_neg h2] at ok;have ht:En b.Au=b.Au[b.Au.length-1]'(by omega):=by have:=MN (l:=b.Au) (n:=b.Au.length-1) (by omega);rwa [show b.Au.length-1+1=b.Au.length by omega,Bf] at this
   have h3:=BB h.1;have hsp:AL (En b.Au)=false:=HQ h3.1 (by have d:=h3.2;simp at d;rw[d];exact hnm);refine⟨dv ?_ ?_,ok,f,.refl,rfl⟩
   .rcases A6 (b.Au.length-1) m with c|c
    .have:=hp (En b.Au) (by rw[ht];exact C1.2 ⟨b.Au.length-1,by omega,rfl⟩);rw[hsp] at this;cases this
    .exact c
   .intro x hx;obtain⟨q,hq,e,rfl⟩:=Ou hx;have:q=b.Au.length-1:=by omega
    subst this;rw[<-ht];exact hsp
 .exact cI hnm o f hl hp
end
abbrev EN:Item->Bool:=AA [AF]
def iQ:List Ad:=[aWS,aWW,aWX,aW0,aXa,aXz,aXl,aYp,aXu,[102,114,97,109,101],aXK,[116,100],aXH,[116,104],aXL,[116,114]]
def okI(i:Item):Prop:=i.AX=1->i.name∉iQ
inductive Pf:List Item->Prop
 |body (h o:Item) (h1:AA [JM] h=true) (h2:AA [Tv] o=true):Pf [h,o]
 |Ql (h t:Item) (h1:AA [JM] h=true) (h2:EN t=true):Pf [h,t]
 |head (h d t:Item) (h1:AA [JM] h=true) (h2:AA [J1] d=true) (h3:EN t=true):Pf [h,d,t]
def ej(S:List Item):Prop:=∀A x C,S=A++x::C->AA [wP] x=true->Hc (AA [wP]) (Gg 3) A.reverse=false
section
variable{U:Type}{q e s:U->Bool}{r u:List U}{x:U}
def QF(hq:∀a,q a=true->s a=true)(he:∀a,e a=true->s a=true):∀r:List U,Hc q e (r.filter s)=Hc q e r
 |[]=>rfl
 |a::r=>by
  cases hs:s a with
  |true=>rw[Ea hs,Hc,Hc,QF hq he r]
  |false=>
   rw[E6 (by simp[hs]),QF hq he r,Hc];cases h1:q a with
   |true=>rw[hq a h1] at hs;cases hs
   |false=>
    cases h2:e a with
    |true=>rw[he a h2] at hs;cases hs
    |false=>simp
def YW(hx:e x=false):∀u:List U,Hc q e (u++x::r)=false->Hc q e (u++r)=false
 |[],h=>by
  simp only[Bw,Hc,hx] at h⊢;split at h;.cases h
  .simpa using h
 |a::u,h=>by
  simp only[Cr,Hc] at h⊢;split at h;.cases h
  .rename_i h1;rw[if_neg h1];split at h;.rename_i h2;rw[if_pos h2]
   .rename_i h2;rw[if_neg h2];exact YW hx u h
def Sx:∀{r:List U},Hc q e r=true->∃C i A,r=C++i::A/\q i=true/\∀y∈C,q y=false/\e y=false
 |[],h=>by cases h
 |a::r,h=>by
  rw[Hc] at h;split at h;.rename_i h1;exact⟨[],a,r,rfl,h1,λy hy=>by cases hy⟩
  .rename_i h1;split at h;.cases h
   .rename_i h2;obtain⟨C,i,A,h3,c,b⟩:=Sx h;refine⟨a::C,i,A,by rw[h3];rfl,c,λy hy=>?_⟩;rcases Aw.1 hy with rfl|hy
    .exact⟨by simpa using h1,by simpa using h2⟩
    .exact b y hy
end
section
variable{P l l' A C:List Item}{n m k j:Nat}{i x:Item}{w:Int}
def Ch{ws:List Ad}:AA ws i=true↔i.AX=1/\i.name∈ws:=aP2
def YX{ws:List Ad}(h:AA ws i=true)(hw:∀w∈ws,Dj 1 w=true):AL i=true:=by have:=Ch.1 h;unfold AL;rw[this.1];exact hw _ this.2
def spP(h:AA [wP] i=true):AL i=true:=YX h (by decide+kernel)
def spT(h:EN i=true):AL i=true:=YX h (by decide+kernel)
def spE(h:Gg 3 i=true):AL i=true:=by
 unfold Gg at h;rw[if_neg (by decide),if_neg (by decide)] at h;split at h;.exact h
 .simp only[Jy,A4] at h;rcases h with(h|⟨h,_⟩)|⟨_,h⟩
  .exact YX h (by decide+kernel)
  .exact absurd (BB h) (by decide)
  .exact YX h (by decide+kernel)
def aJz(hs:w=1\/w=2\/w=3)(h:EN i=true):Gg w i=true:=by have h1:=Ch.1 h;unfold Gg;rw[if_neg (by omega),if_neg (by omega),if_neg (by omega)];have:AA Ml i=true:=Ch.2 ⟨h1.1,by have h2:=h1.2;simp at h2;rw[h2];decide⟩;rw[this];rfl
def Ê:Hc (AA [wP]) (Gg 3) (l.filter AL).reverse=Hc (AA [wP]) (Gg 3) l.reverse:=by rw[<-List.filter_reverse];exact QF (λa=>spP) (λa=>spE) _
def ej.Kd(h:ej (A++C)):ej A:=λB x D e hx=>h B x (D++C) (by rw[e];simp) hx
def ej.rem(h:ej (A++x::C))(hx:Gg 3 x=false):ej (A++C):=by
 intro B y D e hy;rcases ď.1 e with⟨Z,h1,h2⟩|⟨Z,h1,h2⟩
 .have:=h (A++x::Z) y D (by rw[h2];simp) hy;rw[h1];rw[DZ,EA,AT,FF] at this;rw[DZ];exact YW hx _ this
 .cases Z with
  |nil=>rw[A8] at h1;rw[Bw] at h2;have:=h (A++[x]) y D (by rw[<-h2];simp) hy;rw[DZ,Fm] at this;rw[<-h1];exact YW hx [] this
  |cons z Z=>simp only[Cr,Dq] at h2;exact h B y (Z++x::C) (by rw[h1,h2.1];simp) hy
def ej.push(h:ej A)(hx:AA [wP] x=true->Hc (AA [wP]) (Gg 3) A.reverse=false):ej (A++[x]):=by
 intro B y D e hy;rcases ď.1 e with⟨Z,h1,h2⟩|⟨Z,h1,h2⟩
 .cases Z with
  |nil=>simp only[Bw,Dq] at h2;rw[h1,A8];exact hx (by rw[h2.1];exact hy)
  |cons z Z=>simp at h2
 .cases Z with
  |nil=>simp only[Bw,Dq] at h2;rw[A8] at h1;rw[<-h1];exact hx (by rw[<-h2.1];exact hy)
  |cons z Z=>simp only[Cr,Dq] at h2;exact h B y Z (by rw[h1,h2.1]) hy
def Pf.sp(p:Pf P):∀i∈P,AL i=true:=by
 have h1:∀{i},AA [JM] i=true->AL i=true:=λh=>YX h (by decide+kernel);have h2:∀{i},AA [Tv] i=true->AL i=true:=λh=>YX h (by decide+kernel);have h3:∀{i},AA [J1] i=true->AL i=true:=λh=>YX h (by decide+kernel);intro i hi;cases p with
 |body h o a b=>simp at hi;rcases hi with rfl|rfl;exact h1 a;exact h2 b
 |Ql h o a b=>simp at hi;rcases hi with rfl|rfl;exact h1 a;exact spT b
 |head h d t a b c=>simp at hi;rcases hi with rfl|rfl|rfl;exact h1 a;exact h3 b;exact spT c
def Jh:List Ad:=[aWS,aWW,aWX,aWU]
def Pf.nm(p:Pf P):∀i∈P,i.AX=1/\i.name∈Jh:=by
 have key:∀{w} {i:Item},AA [w] i=true->w∈Jh->i.AX=1/\i.name∈Jh:=λh hw=>by have h1:=Ch.1 h;have h2:=h1.2;simp at h2;exact⟨h1.1,by rw[h2];exact hw⟩
 intro i hi;cases p with
 |body h o a b=>simp at hi;rcases hi with rfl|rfl;exact key a (by decide);exact key b (by decide)
 |Ql h o a b=>simp at hi;rcases hi with rfl|rfl;exact key a (by decide);exact key b (by decide)
 |head h d t a b c=>simp at hi;rcases hi with rfl|rfl|rfl;exact key a (by decide);exact key b (by decide);exact key c (by decide)
def Pf.len(p:Pf P):2<=P.length:=by cases p<;>simp
def Pf.aON(p:Pf P):∃h r,P=h::r/\AA [JM] h=true:=by cases p with
 |body h o a b=>exact⟨_,_,rfl,a⟩
 |Ql h o a b=>exact⟨_,_,rfl,a⟩
 |head h d t a b c=>exact⟨_,_,rfl,a⟩
def Pf.last(p:Pf P):∃B z,P=B++[z]/\(AA [Tv] z=true\/EN z=true):=by cases p with
 |body h o a b=>exact⟨[h],o,rfl,.inl b⟩
 |Ql h o a b=>exact⟨[h],o,rfl,.inr b⟩
 |head h d t a b c=>exact⟨[h,d],t,rfl,.inr c⟩
structure DL(P l:List Item)(n:Nat):Prop where
 pf:Pf P
 Kd:l.take P.length=P
 v:∀i∈(l.filter AL).drop P.length,okI i
 cnt:(l.filter AL).countP EN=n
 Gq:ej (l.filter AL)
def DL.len(d:DL P l n):P.length<=l.length:=by have:=BQ List.length d.Kd;rw[Av] at this;omega
def DL.split(d:DL P l n):l=P++l.drop P.length:=by conv=>lhs;rw[<-Bl P.length l,d.Kd]
def DL.Ë(d:DL P l n):l.filter AL=P++(l.drop P.length).filter AL:=by
 conv=>lhs;rw[d.split]
 rw[Bu,GV.2 (λi hi=>d.pf.sp i hi)]
def DL.v'(d:DL P l n):∀i∈l.drop P.length,AL i=true->okI i:=λi hi hs=>d.v i (by rw[d.Ë,QQ];exact BV.2 ⟨hi,hs⟩)
def DL.aFL(d:DL P l n):∀i∈l.take P.length,AL i=true:=by rw[d.Kd];exact d.pf.sp
def DL.fm(d:DL P l n)(h:Zm P.length l l'):DL P l' n:=⟨d.pf,h.Kd.trans d.Kd,by rw[h.sp];exact d.v,by rw[h.sp];exact d.cnt,by rw[h.sp];exact d.Gq⟩
def DL.take(d:DL P l n)(hj:P.length<=j)(ht:∀i∈l.drop j,EN i=false):DL P (l.take j) n:=by
 have e:l.filter AL=(l.take j).filter AL++(l.drop j).filter AL:=by rw[<-Bu,Bl]
 have a:=d.v;have hc:=d.cnt;have hp:=d.Gq;rw[e] at a hc hp;refine⟨d.pf,by rw[Cy,BG hj];exact d.Kd,λi hi=>a i ?_,?_,hp.Kd⟩;.rw[IV];exact B5 _ hi
 .have b:((l.drop j).filter AL).countP EN=0:=Lj.2 λi hi=>by rw[ht i (BV.1 hi).1];simp
  rw[Jk,b] at hc;exact hc
def DL.drop(d:DL P l n)(hk:P.length<=k)(h1:∀h:k<l.length,EN l[k]=false/\Gg 3 l[k]=false):DL P (Bs l k) n:=by
 rcases A6 k l.length with Xm|HK
 rotate_left;.unfold Bs;rw[A7 HK,AH (by omega),A8];exact d
 cases a:AL l[k] with
 |false=>exact d.fm (WO hk λ_=>a)
 |true=>
  obtain⟨ht,he⟩:=h1 Xm;have e:l.filter AL=(l.take k).filter AL++l[k]::(l.drop (k+1)).filter AL:=by
   conv=>lhs;rw[<-Bl k l,Ap Xm]
   rw[Bu,Ea a]
  have b:(Bs l k).filter AL=(l.take k).filter AL++(l.drop (k+1)).filter AL:=by unfold Bs;rw[Bu]
  have c:=d.v;have hc:=d.cnt;have hp:=d.Gq;rw[e] at c hc hp;refine⟨d.pf,?_,?_,?_,?_⟩;.unfold Bs;rw[A0 (by rw[Av];omega),Cy,BG hk];exact d.Kd
  .rw[b];intro i hi;refine c i ?_;have hl:P.length<=((l.take k).filter AL).length:=by
    have:(l.take k).filter AL=P++((l.take k).drop P.length).filter AL:=by
     have h3:l.take k=P++(l.take k).drop P.length:=by conv=>lhs;rw[<-Bl P.length (l.take k),Cy,BG hk,d.Kd]
     conv=>lhs;rw[h3]
     rw[Bu,GV.2 (λi hi=>d.pf.sp i hi)]
    rw[this,Ai];omega
   rw[Oz hl] at hi⊢;rcases Aj.1 hi with h|h
   .exact B5 _ h
   .exact BH _ (Oy _ h)
  .rw[b,Jk];rw[Jk,List.countP_cons_of_neg (by rw[ht];simp)] at hc;exact hc
  .rw[b];exact hp.rem he
def DL.aBR(d:DL P l n)(hi:okI i)(hp:AA [wP] i=true->Hc (AA [wP]) (Gg 3) l.reverse=false):DL P (l++[i]) (n+if EN i=true then 1 else 0):=by
 cases hs:AL i with
 |false=>
  have:EN i=false:=by
   cases h:EN i with
   |false=>rfl
   |true=>rw[spT h] at hs;cases hs
  rw[this];exact d.fm (cG d.len hs)
 |true=>
  have e:(l++[i]).filter AL=l.filter AL++[i]:=by rw[Bu,Ea hs];rfl
  refine⟨d.pf,by rw[A0 d.len];exact d.Kd,?_,?_,?_⟩
  .rw[e];intro x hx;rw[IV] at hx;rcases Aj.1 hx with h|h
   .exact d.v x h
   .have:=Bc h;simp at this;rw[this];exact hi
  .rw[e,Jk,d.cnt];congr 1
   rw[List.countP_singleton]
  .rw[e];exact d.Gq.push λh=>by rw[Ê];exact hp h
def DL.push(d:DL P l n)(hi:okI i)(ht:EN i=false)(hp:AA [wP] i=true->Hc (AA [wP]) (Gg 3) l.reverse=false):DL P (l++[i]) n:=by have:=d.aBR hi hp;rw[ht] at this;exact this
def DL.aJA(d:DL P l n)(ht:EN i=true):DL P (l++[i]) (n+1):=by
 have h1:=Ch.1 ht;have h2:=h1.2;simp at h2;have:=d.aBR (i:=i) (λ_=>by rw[h2];decide) (λh=>by have h3:=(Ch.1 h).2;simp at h3;rw[h2] at h3;exact absurd h3 (by decide))
 rw[ht] at this;exact this
def iR{q:Item->Bool}(d:DL P l n)(a:∀i∈P,q i=false)(hk:k<l.length)(hq:q l[k]=true):P.length<=k:=by
 rcases A6 k P.length with h|h
 .exfalso;have:l[k]∈P:=by rw[<-d.Kd];exact C1.2 ⟨k,by omega,rfl⟩
  rw[a _ this] at hq;cases hq
 .exact h
def DL.sc{q:Item->Bool}(d:DL P l n)(hs:w=1\/w=2\/w=3)(a:∀i∈P,q i=false)(hq:∀i,q i=true->EN i=false)(h:Hc q (Gg w) l.reverse=true):0<=Ax q l/\DL P (Hd l (Ax q l)) n:=by
 obtain⟨C,i,A,e,h1,h2⟩:=Sx h;have el:l=A.reverse++i::C.reverse:=by have:=BQ List.reverse e;rw[Ds] at this;rw[this];simp
 have b:Ax q l=(A.reverse.length:Int):=by rw[el];exact Hi h1 λx hx=>(h2 x (T7.1 hx)).1
 have hpos:P.length<=A.reverse.length:=iR d a (k:=A.reverse.length) (by rw[el];simp) (by
  have:l[A.reverse.length]'(by rw[el];simp)=i:=by simp[el]
  rw[this];exact h1)
 refine⟨by omega,?_⟩;have hl:=d.pf.len;unfold Hd;rw[b,show max 1 ((A.reverse.length:Int)).toNat=A.reverse.length by omega];refine d.take hpos λx hx=>?_;rw[el,QQ] at hx;rcases Aw.1 hx with rfl|hx
 .exact hq _ h1
 .cases ht:EN x with
  |false=>rfl
  |true=>have:=(h2 x (T7.1 hx)).2;rw[aJz hs ht] at this;cases this
def Pf.not(p:Pf P){ws:List Ad}(h:∀w∈ws,w∉Jh):∀i∈P,AA ws i=false:=λi hi=>by
 cases h1:AA ws i with
 |false=>rfl
 |true=>exact absurd (p.nm i hi).2 (h _ (Ch.1 h1).2)
def YY{ws:List Ad}(h:AF∉ws)(h1:AA ws i=true):EN i=false:=by
 cases h2:EN i with
 |false=>rfl
 |true=>have h3:=(Ch.1 h2).2;simp at h3;have a:=(Ch.1 h1).2;rw[h3] at a;exact absurd a h
def DL.WR(d:DL P l n){s:Ad}:DL P (DN (Cz s) C8 l) n:=by
 rw[Si];have hu:∀i∈P,Cz s i=true:=λi hi=>by
  have:=(d.pf.nm i hi).2;have key:∀w∈Jh,w∉FD:=by decide
  exact Ag (.inr (.inl (key _ this)))
 have hl:=d.len;have h2:=d.pf.len;have h1:(P.length:Int)-1<=Ax (Cz s) l:=by
  have hk:P.length-1<l.length:=by omega
  have:l[P.length-1]∈P:=by have h3:l[P.length-1]∈l.take P.length:=C1.2 ⟨P.length-1,by omega,rfl⟩;rwa [d.Kd] at h3
  have:=MZ (q:=Cz s) hk (hu _ this);omega
 unfold Hd;refine d.take (by omega) λi hi=>?_;obtain⟨k,hk,h3,rfl⟩:=Ou hi;have f:Cz s l[k]=false:=by
  rcases B8 (q:=Cz s) (l:=l) with⟨b,_⟩|⟨j,hj,b,_,a⟩
  .omega
  .exact a k hk (by omega)
 cases b:EN l[k] with
 |false=>rfl
 |true=>have a:=Ch.1 b;have c:=a.2;simp at c;have:Cz s l[k]=true:=Ag (.inr (.inl (by rw[c];decide)));rw[this] at f;cases f
def DL.Gs(d:DL P l n)(hk:P.length<l.length)(ht:EN (En l)=false):DL P (l.take (l.length-1)) n:=by
 refine d.take (by omega) λi hi=>?_;obtain⟨k,hk,h3,rfl⟩:=Ou hi;have e:k=l.length-1:=by omega
 have:=MN (l:=l) (n:=l.length-1) (by omega);rw[show l.length-1+1=l.length by omega,Bf] at this;subst e;rw[<-this];exact ht
end
structure Cm(b:BS):Prop where
 ok:Fa b
 ac:WQ b.a b.AW
 ĉ:b.FJ≠0->b.a.has b.FJ/\(b.a.nd b.FJ).AX=1/\(b.a.nd b.FJ).name=aXn
 fo:b.D3=false
 fr:b.KH=false
 qz:∀m∈b.tm,m=7\/m=18
structure LQ(b:BS):Prop where
 has:b.a.has b.head
 kind:(b.a.nd b.head).kind=4
 AX:(b.a.nd b.head).AX=1
 name:(b.a.nd b.head).name=J1
structure Kp(b c:BS):Prop where
 ok:Fa c
 ac:WQ c.a c.AW
 le:Le b.a c.a
 rest:c.rs=b.rs
structure Dp(P:List Item)(q:Int)(T:List Int)(b:BS):Prop where
 cm:Cm b
 hd:LQ b
 d:DL P b.Au T.length
 md:b.mode=q
 tme:b.tm=T
section
variable{P:List Item}{q:Int}{T:List Int}{m k j n:Nat}{b c d:BS}{nm x:Ad}{l:List A9}{t:Dv}{sp h:Int}{i:Item}
def IQ:c.rs=b.rs↔c.tm=b.tm/\c.FJ=b.FJ/\c.head=b.head/\c.mode=b.mode/\c.GM=b.GM/\c.D3=b.D3/\c.KH=b.KH/\c.CB=b.CB:=by unfold BS.rs;simp only[Hq]
def Kp.refl(o:Cm b):Kp b b:=⟨o.ok,o.ac,.refl,rfl⟩
def Kp.trans(h:Kp b c)(g:Kp c d):Kp b d:=⟨g.ok,g.ac,h.le.trans g.le,g.rest.trans h.rest⟩
def cH.kp(h:cH m b c):Kp b c:=⟨h.ok,h.ac,h.le,h.rest⟩
def Cm.go(o:Cm b)(h:Kp b c):Cm c:=by obtain⟨f,r2,s,r,p,e,a,g⟩:=IQ.1 h.rest;refine⟨h.ok,h.ac,λhf=>?_,by rw[e];exact o.fo,by rw[a];exact o.fr,by rw[f];exact o.qz⟩;rw[r2] at hf⊢;obtain⟨h1,h2,h3⟩:=o.ĉ hf;exact⟨h.le.has _ h1,by rw[h.le.AX _ h1];exact h2,by rw[h.le.name _ h1];exact h3⟩
def LQ.le(o:LQ b)(hl:Le b.a c.a)(e:c.head=b.head):LQ c:=⟨by rw[e];exact hl.has _ o.has,by rw[e,hl.kind _ o.has];exact o.kind,by rw[e,hl.AX _ o.has];exact o.AX,by rw[e,hl.name _ o.has];exact o.name⟩
def LQ.go(o:LQ b)(h:Kp b c):LQ c:=o.le h.le (IQ.1 h.rest).2.2.1
def Dp.go(o:Dp P q T b)(h:Kp b c)(a:DL P c.Au T.length):Dp P q T c:=⟨o.cm.go h,o.hd.go h,a,(IQ.1 h.rest).2.2.2.1.trans o.md,(IQ.1 h.rest).1.trans o.tme⟩
def Dp.fm(o:Dp P q T b)(h:cH P.length b c):Dp P q T c:=o.go h.kp (o.d.fm h.fm)
def o9(o:Cm b){ol:List Item}(hs:ol.Sublist b.Au):Kp b {b with Au:=ol}:=⟨o.ok.Ka hs,o.ac,.refl,rfl⟩
def kpE(o:Cm b)(h1:c.a=b.a)(h3:c.Au=b.Au)(e:c.AW=b.AW)(h2:c.rs=b.rs):Kp b c:=⟨o.ok.of_eq h1 (IQ.1 h2).2.2.2.2.2.2.2 h3 e,by rw[h1,e];exact o.ac,by rw[h1];exact .refl,h2⟩
def Dp.eq(o:Dp P q T b)(h1:c.a=b.a)(h3:c.Au=b.Au)(e:c.AW=b.AW)(h2:c.rs=b.rs):Dp P q T c:=o.go (kpE o.cm h1 h3 e h2) (by rw[h3];exact o.d)
def Rj:(b.CX nm l sp).rs=b.rs:=by
 unfold BS.CX BS.HL;split;.rfl
 .rfl
def Lb(o:Cm b):Kp b (b.CX nm l sp):=⟨Yo o.ok,by rw[Gi];exact o.ac.le O3 o.ok.ac,O3,Rj⟩
def QG:((b.CX nm l 1).a.nd (b.a.len+1)).name=nm/\((b.CX nm l 1).a.nd (b.a.len+1)).AX=1/\(b.CX nm l 1).a.has (b.a.len+1)/\((b.CX nm l 1).a.nd (b.a.len+1)).kind=4:=by
 have h0:=Yp (b:=b) (nm:=nm) (at_:=l) (sp:=1) Lm;refine⟨?_,?_,h0⟩<;>unfold BS.CX BS.HL<;>rw[if_pos Lm]<;>simp only<;>rw[if_pos Lm]<;>simp only
 .have h1:=Tw (A:=b.a) (d:=b.L7 (b.place 0).1) (sp:=1) (nm:=BS.Nk 1 nm) (l:=l.map (D2 1));rw[JC.name _ h1.1,h1.2.2.2.1,nm1]
 .have h1:=Tw (A:=b.a) (d:=b.L7 (b.place 0).1) (sp:=1) (nm:=BS.Nk 1 nm) (l:=l.map (D2 1));rw[JC.AX _ h1.1,h1.2.2.1]
def TP(o:Cm b){r:Int}:Kp b (b.Mo r):=by
 have hl:Le b.a (b.Mo r).a:=by unfold BS.Mo;exact(bR o.ok.ok (Yn o.ok (.inl rfl)).1).2
 exact⟨xA o.ok,o.ac.le hl o.ok.ac,hl,rfl⟩
def JQ(o:Cm b){s:Ad}:Kp b (b.DA s h):=by
 have hl:Le b.a (b.DA s h).a:=by
  unfold BS.DA;simp only
  split;.exact(Mp o.ok.ok).2
  .exact(Mp o.ok.ok).2
 exact⟨Yq o.ok,o.ac.le hl o.ok.ac,hl,rfl⟩
def nW(o:Cm b):Kp b (b.GN l h):=by
 have h1:=mV (l:=l) (h:=h) o.ok;unfold BS.GN at h1⊢;split;.rename_i hk;rw[if_pos hk] at h1;exact⟨h1,o.ac.le Qp o.ok.ac,Qp,rfl⟩
 .exact .refl o
def Dp.Mo(o:Dp P q T b){r:Int}:Dp P q T (b.Mo r):=o.go (TP o.cm) o.d
def Dp.DA(o:Dp P q T b){s:Ad}:Dp P q T (b.DA s h):=o.go (JQ o.cm) o.d
def cK:(b.GN l h).Au=b.Au:=by unfold BS.GN;split<;>rfl
def Dp.GN(o:Dp P q T b):Dp P q T (b.GN l h):=o.go (nW o.cm) (by rw[cK];exact o.d)
def NU{ws:List Ad}:AA ws (b.IJ nm l 1)=decide (nm∈ws):=by unfold AA;rw[Ot,Pd];simp
def Dp.Nf(o:Dp P q T b)(h1:nm∉iQ)(h2:nm≠AF)(h3:nm=wP->Hc (AA [wP]) (Gg 3) b.Au.reverse=false):Dp P q T (b.CX nm l 1):=by
 refine o.go (Lb o.cm) ?_;rw[FY];refine o.d.push (λ_=>by rw[Ot];exact h1) ?_ λh=>h3 ?_;.rw[EN,NU];simpa using h2
 .rw[NU] at h;simpa using h
def Dp.aOP(o:Dp P q T b)(hs:sp=2\/sp=3):Dp P q T (b.CX nm l sp):=by
 have hk:BS.LH sp:=by unfold BS.LH;omega
 refine o.go (Lb o.cm) ?_;have e:(b.CX nm l sp).Au=b.Au++[b.IJ nm l sp]:=by
  unfold BS.CX;rw[if_pos hk];have:(b.HL nm l sp (b.place 0).1).Au=b.Au:=by unfold BS.HL;rw[if_pos hk]
  simp only[this]
 have es:(b.IJ nm l sp).AX=sp:=by unfold BS.IJ;rw[if_pos hk]
 have no:∀ws,AA ws (b.IJ nm l sp)=false:=λws=>by unfold AA;rw[es];exact Ak λh=>by have:=h.1;omega
 rw[e];exact o.d.push (λh=>by rw[es] at h;omega) (no _) λh=>by rw[no] at h;cases h
def QH(h1:1<=b.Au.length):(b.CX nm l 1).Gs.Au=b.Au:=by unfold BS.Gs;rw[FY];rw[if_neg (by simp;omega)];simp only[Ai,AR,Mc];rw[A0 (Ab _),Bf]
def tO(o:Cm b):Kp b b.Gs:=by
 unfold BS.Gs;split;.exact .refl o
 .exact o9 o (Ca _ _)
def TQ(o:Cm b):Kp b (b.CX nm l 1).Gs:=(Lb o).trans (tO (o.go (Lb o)))
def Dp.sd(o:Dp P q T b):Dp P q T (b.CX nm l 1).Gs:=o.go (TQ o.cm) (by rw[QH (by have:=o.d.len;have:=o.d.pf.len;omega)];exact o.d)
def aJB(a:Item)(h:AA [wP] a=true):Cz wP a=true:=by have:=(Ch.1 h).2;simp at this;exact Ag (.inr (.inr this))
def Dp.Cs(o:Dp P q T b):Dp P q T b.Cs/\Hc (AA [wP]) (Gg 3) b.Cs.Au.reverse=false:=by
 unfold BS.Cs;split
 .rename_i h;obtain⟨h0,g⟩:=o.d.sc (.inr (.inr rfl)) (o.d.pf.not (by decide)) (λi hi=>YY (by decide) hi) h;rw[M0 aJB h0];refine⟨o.go (o9 o.cm MU) g,?_⟩;simp only
  obtain⟨C,i,A,e,h1,h2⟩:=Sx h;have el:b.Au=A.reverse++i::C.reverse:=by have:=BQ List.reverse e;rw[Ds] at this;rw[this];simp
  have a:Ax (AA [wP]) b.Au=(A.reverse.length:Int):=by rw[el];exact Hi h1 λx hx=>(h2 x (T7.1 hx)).1
  have hpos:=iR o.d (o.d.pf.not (ws:=[wP]) (by decide)) (k:=A.reverse.length) (by rw[el];simp) (by
   have:b.Au[A.reverse.length]'(by rw[el];simp)=i:=by simp[el]
   rw[this];exact h1)
  have hl:=o.d.pf.len;have f:Hd b.Au (Ax (AA [wP]) b.Au)=A.reverse:=by unfold Hd;rw[a,show max 1 ((A.reverse.length:Int)).toNat=A.reverse.length by omega,el,EO]
  rw[f,<-Ê];refine o.d.Gq (A.reverse.filter AL) i (C.reverse.filter AL) ?_ h1;rw[el,Bu,Ea (spP h1)]
 .rename_i h;exact⟨o,by simpa using h⟩
def Dp.block(o:Dp P q T b)(h1:nm∉iQ)(h2:nm≠AF):Dp P q T (b.Cs.CX nm l 1):=o.Cs.1.Nf h1 h2 λ_=>o.Cs.2
def Dp.Dt(o:Dp P q T b){sc:Int}(hs:sc=1\/sc=2\/sc=3)(h1:nm∉Jh)(hx:nm∉FD\/nm=x)(h:Hc (AA [nm]) (Gg sc) b.Au.reverse=true):Dp P q T (b.Dt nm x):=by
 have e:AF∉[nm]:=by rintro h;simp at h;rw[<-h] at h1;exact h1 (by decide)
 obtain⟨h0,f⟩:=o.d.sc hs (o.d.pf.not (by simpa using h1)) (λi hi=>YY e hi) h;unfold BS.Dt;rw[M0 (λa ha=>by have:=(Ch.1 ha).2;simp at this;exact Ag (.inr (by rw[this];exact hx))) h0]
 exact o.go (o9 o.cm MU) f
def oj(o:Cm b)(hn:nm∈CM):Kp b (b.Fw nm l):=by
 refine⟨bQ o.ok,?_,O3,?_⟩
 .unfold BS.Fw;simp only
  obtain⟨l',h1,h2⟩:=Tx (l:=(b.CX nm l 1).AW) (e:=⟨b.a.len+1,nm,l⟩);rw[h2];intro e he;rcases Aj.1 he with h|h
  .have:=h1.subset h;rw[Gi] at this;exact(o.ac.le O3 o.ok.ac) e this
  .simp at h;subst h;exact .inr ⟨hn,QG.1,QG.2.1⟩
 .unfold BS.Fw;exact Rj
def tP:(b.Fw nm l).Au=b.Au++[b.IJ nm l 1]:=by unfold BS.Fw;exact FY
def ew(hn:nm∈CM)(hm:m<=b.Au.length):Zm m b.Au (b.CX nm l 1).Au:=by rw[FY];exact cG hm (HQ Pd (by rw[Ot];exact hn))
def Dp.Fw(o:Dp P q T b)(hn:nm∈CM):Dp P q T (b.Fw nm l):=by refine o.go (oj o.cm hn) (o.d.fm ?_);have:=ew (b:=b) (l:=l) hn o.d.len;rw[FY] at this;rw[tP];exact this
def ey{m:Nat}:∀{es:List B2} {b:BS},Cm b->(∀e∈es,e.name∈CM)->m<=b.Au.length->Zm m b.Au (BS.JL es b).2.Au/\Le b.a (BS.JL es b).2.a/\(BS.JL es b).2.rs=b.rs/\∀e∈(BS.JL es b).1,e.name∈CM/\((BS.JL es b).2.a.nd e.node).name=e.name/\((BS.JL es b).2.a.nd e.node).AX=1
 |[],b,_,_,_=>⟨.refl,.refl,rfl,λe he=>by cases he⟩
 |e::es,b,o,hf,hm=>by
  have f:=Lb (nm:=e.name) (l:=e.Aq) (sp:=1) o;have f1:=ew (b:=b) (l:=e.Aq) (hf e (by simp)) hm;obtain⟨h1,h2,h3,g⟩:=ey (m:=m) (es:=es) (b:=b.CX e.name e.Aq 1) (o.go f) (λx hx=>hf x (by simp[hx])) (f1.len hm);have hn:=QG (b:=b) (nm:=e.name) (l:=e.Aq);rw[BS.JL];refine⟨f1.trans h1,f.le.trans h2,h3.trans f.rest,λx hx=>?_⟩;rcases Aw.1 hx with rfl|hx
  .exact⟨hf e (by simp),by simp only;rw[h2.name _ hn.2.2.1];exact hn.1,by simp only;rw[h2.AX _ hn.2.2.1];exact hn.2.1⟩
  .exact g x hx
def tQ(o:Cm b)(hm:m<=b.Au.length):cH m b b.AO:=by
 have hu:∀e∈b.AW.drop b.On,e.name∈CM:=by
  intro e he;obtain⟨k,hk,f⟩:=PG he;rw[J6] at f;rw[A5] at hk;have h1:b.settled e=false:=by
   rcases B8 (q:=b.settled) (l:=b.AW) with⟨h2,h3⟩|⟨n,hn,h2,_,a⟩
   .exact h3 e (Bc he)
   .rw[<-f];refine a _ (by omega) ?_;unfold BS.On;rw[h2];omega
  have h2:e.node≠0:=λh3=>by have:=nT (b:=b) (e:=e);rw[h1] at this;simp[h3] at this
  rcases o.ac e (Bc he) with h3|h3
  .exact absurd h3 h2
  .exact h3.1
 obtain⟨h1,h2,h3,a⟩:=ey (m:=m) o hu hm;have ok:=Yr o.ok;refine⟨h1,ok,?_,h2,h3⟩;intro e he;unfold BS.AO at he;simp only at he;rcases Aj.1 he with h|h
 .exact(o.ac.le h2 o.ok.ac) e (AZ h)
 .exact .inr (a e h)
def Dp.AO(o:Dp P q T b):Dp P q T b.AO:=o.fm (tQ o.cm o.d.len)
def Dp.Du(o:Dp P q T b)(hn:nm∈CM):Dp P q T (b.Du nm):=o.fm (cJ o.cm.ok o.cm.ac hn o.d.len o.d.aFL)
def Dp.Dg(o:Dp P q T b)(h1:nm≠AF)(h2:nm≠Tv)(h3:nm≠JM):Dp P q T (b.Dg nm):=by
 have law:=YR o.cm.ok nm;by_cases hb:b.Dg nm=b;.rw[hb];exact o
 rcases law with h|⟨h0,h⟩
 .exact absurd h hb
 unfold BS.Dg at hb;split at hb
 .rename_i i hi;split at hb
  .rename_i hq;obtain⟨A,C,e,_,u⟩:=TO hi;have a:∀x∈C,AA [nm] x=false/\AL x=false:=λx hx=>by have:=u x hx;rw[KC] at this;exact this
   have D:Ax (AA [nm]) b.Au=(A.length:Int):=by rw[e];exact Hi hq λx hx=>(a x hx).1
   have Zh:=(Ch.1 hq).2;simp at Zh;have hl:=o.d.pf.len;have hlen:=o.d.len;have v:P.length<=A.length:=by
    rcases A6 A.length P.length with hlt|HK
    .exfalso;obtain⟨B,z,g,hz⟩:=o.d.pf.last;have s:P.length=B.length+1:=by rw[g];simp
     have hk:B.length<b.Au.length:=by omega
     have qg:b.Au[B.length]=z:=by
      have p:(b.Au.take P.length)[B.length]'(by rw[Av];omega)=P[B.length]'(by omega):=by simp only[o.d.Kd]
      rw[If] at p;rw[p];simp[g]
     have KT:=o.d.pf.sp z (by rw[g];simp);rcases A6 A.length B.length with y|y
     .have:z∈C:=by
       have f:b.Au[B.length]=(A++i::C)[B.length]'(by rw[<-e];exact hk):=by simp only[<-e]
       rw[<-qg,f,Ď (by omega)];obtain⟨r,hr⟩:∃r,B.length-A.length=r+1:=⟨B.length-A.length-1,by omega⟩;simp only[hr,Nd];exact Ay _
      rw[(a z this).2] at KT;cases KT
     .have w:A.length=B.length:=by omega
      have:z=i:=by
       have f:b.Au[B.length]=(A++i::C)[B.length]'(by rw[<-e];exact hk):=by simp only[<-e]
       rw[<-qg,f];simp[<-w]
      rw[this] at hz;rcases hz with hz|hz
      .have:=(Ch.1 hz).2;simp at this;exact h2 (by rw[<-Zh,this])
      .have:=(Ch.1 hz).2;simp at this;exact h1 (by rw[<-Zh,this])
    .exact HK
   rw[h];refine o.go (o9 o.cm MU) ?_;simp only
   unfold Hd;rw[D,show max 1 ((A.length:Int)).toNat=A.length by omega];refine o.d.take v λx hx=>?_;rw[e,QQ] at hx;rcases Aw.1 hx with rfl|hx
   .exact YY (by simpa using Dd h1) hq
   .cases ht:EN x with
    |false=>rfl
    |true=>have:=(a x hx).2;rw[spT ht] at this;cases this
  .exact absurd rfl hb
 .exact absurd rfl hb
def Dp.WR(o:Dp P q T b){s:Ad}:Dp P q T {b with Au:=DN (Cz s) C8 b.Au}:=o.go (o9 o.cm C5) o.d.WR
def DL.B9(o:Dp P q T b){y:Int}(h:∀i∈b.Au,i.node=y->i.name∉Jh/\EN i=false/\Gg 3 i=false):DL P (B9 y b.Au) T.length:=by
 unfold Am.B9;split;.exact o.d
 .rename_i h1;rcases B8 (q:=Bq y) (l:=b.Au) with⟨h2,_⟩|⟨k,hk,h2,h3,_⟩
  .omega
  .have e:=h _ (Ay hk) (BB h3);rw[show(Ax (Bq y) b.Au).toNat=k by omega];refine o.d.drop ?_ λ_=>e.2;rcases A6 k P.length with a|a
   .exfalso;have:b.Au[k]∈P:=by have f:b.Au[k]∈b.Au.take P.length:=C1.2 ⟨k,by omega,rfl⟩;rwa [o.d.Kd] at f
    exact e.1 (o.d.pf.nm _ this).2
   .exact a
def aAn{ws:List Ad}(hw:∀w∈ws,w∉Ml/\w≠aWV)(h:AA ws i=true):Gg 3 i=false:=by
 have h1:=Ch.1 h;have h2:=hw _ h1.2;cases he:Gg 3 i with
 |false=>rfl
 |true=>
  unfold Gg at he;rw[if_neg (by decide),if_neg (by decide),if_neg (by rw[h1.1];decide)] at he;simp only[Jy,A4] at he;rcases he with(he|⟨he,_⟩)|⟨_,he⟩
  .exact absurd (Ch.1 he).2 h2.1
  .exact absurd (BB he) (by decide)
  .have:=(Ch.1 he).2;simp at this;exact absurd this h2.2
def Dp.B9(o:Dp P q T b){y:Int}{w:Ad}(hw:w∉Jh)(f:w≠AF)(a:w∉Ml/\w≠aWV)(h:∀i∈b.Au,i.node=y->i.AX=1/\i.name=w):Dp P q T {b with Au:=Am.B9 y b.Au}:=by refine o.go (o9 o.cm Eo) (DL.B9 o λi hi e=>?_);obtain⟨h1,h2⟩:=h i hi e;have h3:AA [w] i=true:=Ch.2 ⟨h1,by simp[h2]⟩;exact⟨by rw[h2];exact hw,YY (by simpa using Dd f) h3,aAn (by simpa using a) h3⟩
def Dp.aBS(o:Dp P q T b){ws:List Ad}(hw:∀w∈ws,w∉Jh)(h:AA ws (En b.Au)=true):Dp P q T b.Gs:=by
 have hl:=o.d.len;have h2:=o.d.pf.len;have ht:En b.Au=b.Au[b.Au.length-1]'(by omega):=by have:=MN (l:=b.Au) (n:=b.Au.length-1) (by omega);rwa [show b.Au.length-1+1=b.Au.length by omega,Bf] at this
 have hpos:=iR o.d (o.d.pf.not hw) (k:=b.Au.length-1) (by omega) (by rw[<-ht];exact h);have hk:=tO o.cm;unfold BS.Gs at hk⊢;rw[if_neg (by omega)] at hk⊢;refine o.go hk (o.d.Gs (by omega) (YY (λa=>hw _ a (by decide)) h))
end
def FA(h:Ae)(F:Nat->Prop)(f:FuncId)(args:List Aa)(r:Aa)(bi:Nat)(b':BS):Prop:=∃h' F',Cj cx f args h r h'/\PB h' bi b' F'/\Ey h F h' F'
abbrev Ct(t:Dv)(av:Aa):List Aa:=[.int .i64 t.k,.str t.name,.bool t.hn,.str t.Ke,.bool t.hp,.str t.sys,.bool t.hs,.bool t.q,av,.bool t.sc,.str t.data,.int .i32 t.r]
section
variable{h h':Ae}{bi:Nat}{b b':BS}{F:Nat->Prop}{n o a:Nat}{t:Dv}{av:Aa}
def QI:gY t.name av (Ct t av):=⟨_,_,_,_,_,_,_,_,_,_,rfl⟩
def E4(w:PB h bi b F)(g:Gz b (n+4) o a)(ht:t.Sm)(d:Bj t.Aq av):FA h F 67 [.ptr (some (bi,0)),.agg (Ct t av)] (.int .i64 (b.MQ 1)) bi (b.C6 t):=by obtain⟨e,i,c,tt,G,w,hc,rfl⟩:=w;obtain⟨h',o',f,r,w',x⟩:=ŷ (m:=n) w g.ok g.rm QI d ht.Aq ht.name;exact⟨h',_,r,⟨e,o',c,tt,f,w',by unfold BS.C6;rw[Gi];exact hc,rfl⟩,x⟩
def iS(w:PB h bi b F)(g:Gz b (n+4) o a)(ht:t.Sm)(d:Bj t.Aq av)(sp:Int):FA h F 110 [.ptr (some (bi,0)),.agg (Ct t av),.int .i64 sp] (.int .i64 (b.MQ sp)) bi (b.CX t.name t.Aq sp):=by obtain⟨e,i,c,tt,G,w,hc,rfl⟩:=w;obtain⟨h',o',f,r,w',x⟩:=aIX (m:=n) w g.ok g.rm QI d ht.Aq ht.name sp;exact⟨h',_,r,⟨e,o',c,tt,f,w',by rw[Gi];exact hc,rfl⟩,x⟩
def Ì(w:PB h bi b F)(g:Gz b (n+5) o a)(ht:t.Sm)(d:Bj t.Aq av):FA h F 200 [.ptr (some (bi,0)),.agg (Ct t av)] (.int .i64 (b.a.len+1)) bi (b.Fw t.name t.Aq):=by obtain⟨e,i,c,tt,G,w,hc,rfl⟩:=w;obtain⟨h',o',c',f,r,w',Ut,x⟩:=aNV (m:=n) w hc g.ok g.rm QI d ht.Aq ht.name;exact⟨h',_,r,⟨e,o',c',tt,f,w',Ut,rfl⟩,x⟩
def YZ(w:PB h bi b F)(g:Gz b (n+5) o a){r:Int}(hr: -2147483648<=r/\r<=2147483647):FA h F 69 [.ptr (some (bi,0)),.int .i32 r] (.tuple []) bi (b.Mo r):=by obtain⟨e,d,c,tt,G,w,hc,rfl⟩:=w;obtain⟨h',f,r,w',x⟩:=aNY (m:=n) w g.ok g.rm r hr;exact⟨h',_,r,⟨e,d,c,tt,f,w',hc,rfl⟩,x⟩
def Mw(w:PB h bi b F)(g:Gz b (n+1) o a){s:Ad}(hs:s.length<=100000)(x:Int):FA h F 59 [.ptr (some (bi,0)),.str s,.int .i64 x] (.tuple []) bi (b.DA s x):=by obtain⟨e,d,c,tt,G,w,hc,rfl⟩:=w;obtain⟨h',f,r,w',x⟩:=aN0 (m:=n) w g.ok g.rm s hs x;exact⟨h',_,r,⟨e,d,c,tt,f,w',hc,rfl⟩,x⟩
def Y0(w:PB h bi b F)(g:Gz b (n+4) o a)(ht:t.Sm)(d:Bj t.Aq av)(s:Int):FA h F 71 [.ptr (some (bi,0)),.agg (Ct t av),.int .i64 s] (.tuple []) bi (b.Df t.name t.Aq s):=by obtain⟨e,i,c,tt,G,w,hc,rfl⟩:=w;obtain⟨h',o',f,r,w',x⟩:=aN1 (m:=n) w g.ok g.rm QI d ht.Aq ht.name s;exact⟨h',_,r,⟨e,o',c,tt,f,w',by show Ec (b.CX t.name t.Aq 1).AW c;rw[Gi];exact hc,rfl⟩,x⟩
def Jv(w:PB h bi b F)(g:Gz b n o a):FA h F 198 [.ptr (some (bi,0))] (.tuple []) bi b.Cs:=by obtain⟨d,f,c,tt,G,w,hc,rfl⟩:=w;obtain⟨h',o',r,w',x⟩:=aN2 w g.rm;exact⟨h',_,r,⟨d,o',c,tt,G,w',by have e:b.Cs.AW=b.AW:=(by unfold BS.Cs;split<;>rfl);rw[e];exact hc,rfl⟩,x⟩
def CZ(w:PB h bi b F)(g:Gz b (n+4*a) o a):FA h F 80 [.ptr (some (bi,0))] (.tuple []) bi b.AO:=by obtain⟨d,f,c,tt,G,w,hc,rfl⟩:=w;obtain⟨h',o',c',e,r,w',Ut,x⟩:=aOa (m:=n) w hc g.ok (g.rm.le (by have:=g.AW;omega));exact⟨h',_,r,⟨d,o',c',tt,e,w',Ut,rfl⟩,x⟩
def Í(w:PB h bi b F)(g:Gz b n o a)(nm:Ad):FA h F 82 [.ptr (some (bi,0)),.str nm] (.tuple []) bi (b.Dg nm):=by obtain⟨d,f,c,tt,G,w,hc,rfl⟩:=w;obtain⟨h',o',r,w',x⟩:=aI5 w g.rm nm;exact⟨h',_,r,⟨d,o',c,tt,G,w',by have e:(b.Dg nm).AW=b.AW:=(by unfold BS.Dg;split;split<;>rfl;rfl);rw[e];exact hc,rfl⟩,x⟩
def aAo(w:PB h bi b F)(g:Gz b n o a):FA h F 88 [.ptr (some (bi,0))] (.tuple []) bi b.Js:=by obtain⟨e,d,c,tt,G,w,hc,rfl⟩:=w;obtain⟨h',r,w',x⟩:=aFs w g.rm;exact⟨h',_,r,⟨e,d,c,tt,G,w',hc,rfl⟩,x⟩
def ez(w:PB h bi b F)(g:Gz b (n+1000) o a)(ht:t.Sm)(f:Bj t.Aq av)(x:Int):FA h F 205 [.ptr (some (bi,0)),.agg (Ct t av),.int .i64 x] (.tuple []) bi (b.GN t.Aq x):=by obtain⟨i,d,c,tt,G,w,hc,rfl⟩:=w;obtain⟨h',j,r,w',x⟩:=aN5 (m:=n) w g.ok g.rm QI f ht.Aq x;exact⟨h',_,r,⟨i,d,c,tt,j,w',by have e:∀y,(b.GN t.Aq y).AW=b.AW:=(λy=>by unfold BS.GN;split<;>rfl);rw[e];exact hc,rfl⟩,x⟩
def aFM(w:PB h bi b F)(g:Gz b n o a):FA h F 75 [.ptr (some (bi,0))] (.tuple []) bi b.CN:=by obtain⟨d,e,c,tt,G,w,hc,rfl⟩:=w;obtain⟨h',o',c',t',r,w',Ut,x⟩:=aN6 w hc g.rm;exact⟨h',_,r,⟨d,o',c',t',G,w',Ut,rfl⟩,x⟩
def Î(w:PB h bi b F):FA h F 78 [.ptr (some (bi,0))] (.tuple []) bi {b with stop:=true}:=by obtain⟨e,d,c,tt,G,w,hc,rfl⟩:=w;obtain⟨h',r,w',x⟩:=aN9 w;exact⟨h',_,r,⟨e,d,c,tt,G,w',hc,rfl⟩,x⟩
def Y1(w:PB h bi b F)(g:Gz b (n+8*(4*(o+8)+10)) o a)(nm:Ad):FA h F 149 [.ptr (some (bi,0)),.str nm] (.tuple []) bi (b.Du nm):=by obtain⟨d,f,c,tt,G,w,hc,rfl⟩:=w;obtain⟨h',o',c',e,r,w',Ut,x⟩:=aOz (m:=n) w hc g.ok (g.rm.le (by have:=g.Au;omega)) nm;exact⟨h',_,r,⟨d,o',c',tt,e,w',Ut,rfl⟩,x⟩
def PD(w:PB h bi b F)(g:Gz b n o a):FA h F 73 [.ptr (some (bi,2))] (.agg b.aDb.row) bi b.Gs:=by obtain⟨d,f,c,tt,G,w,hc,rfl⟩:=w;obtain⟨h',o',r,w',x⟩:=aJd w g.rm;exact⟨h',_,r,⟨d,o',c,tt,G,w',by have e:b.Gs.AW=b.AW:=(by unfold BS.Gs;split<;>rfl);rw[e];exact hc,rfl⟩,x⟩
def Ï(w:PB h bi b F)(g:Gz b n o a):FA h F 74 [.ptr (some (bi,3))] (.tuple []) bi {b with AW:=b.AW++[B2.zero]}:=by obtain⟨e,d,c,tt,G,w,hc,rfl⟩:=w;have fE:=g.rm.AW;obtain⟨fs,Lx,Ws⟩:=hc;obtain⟨u,r2,hu⟩:=f63 (h:=h) (id:=bi) (o:=3) (l:=fs) ⟨c,w.my,Ws⟩ (by rw[<-Lx,Ao] at fE;omega);exact⟨_,_,r2,⟨e,d,u,tt,G,w.TJ (u:=u) (l:=b.AW++[B2.zero]),⟨_,by rw[Cb,Lx];rfl,hu⟩,rfl⟩,Cn⟩
def e_(w:PB h bi b F)(g:Gz b n o a):∃r,FA h F 86 [.ptr (some (bi,3))] r bi {b with AW:=EX b.AW}:=by obtain⟨e,d,c,tt,G,w,hc,rfl⟩:=w;have fE:=g.rm.AW;obtain⟨fs,Lx,Ws⟩:=hc;obtain⟨u,r2,hu⟩:=f65 (h:=h) (id:=bi) (o:=3) (l:=fs) ⟨c,w.my,Ws⟩ (by rw[<-Lx,Ao] at fE;omega);exact⟨_,_,_,r2,⟨e,d,u,tt,G,w.TJ (u:=u) (l:=EX b.AW),⟨_,by rw[dd,Lx],hu⟩,rfl⟩,Cn⟩
def iT(w:PB h bi b F)(g:Gz b n o a){v:Aa}{ws:List Ad}(hw:HT ws v)(hn:ws.length<=1000000000):∃r,FA h F 85 [.ptr (some (bi,2)),v] r bi {b with Au:=DN C8 (AA ws) b.Au}:=by obtain⟨d,e,c,tt,G,w,hc,rfl⟩:=w;have ho:=g.rm.Au;obtain⟨u,r2,hu⟩:=f66 w.sO (by omega) hw hn;exact⟨_,_,_,r2,⟨d,u,c,tt,G,w.Pb hu,hc,rfl⟩,Cn⟩
def Mx(w:PB h bi b F)(g:Gz b n o a)(s:Ad):∃r,FA h F 156 [.ptr (some (bi,2)),.str s] r bi {b with Au:=DN (Cz s) C8 b.Au}:=by obtain⟨d,e,c,tt,G,w,hc,rfl⟩:=w;have ho:=g.rm.Au;obtain⟨u,r2,hu⟩:=aFf w.sO (by omega) s;exact⟨_,_,_,r2,⟨d,u,c,tt,G,w.Pb hu,hc,rfl⟩,Cn⟩
def Y2(w:PB h bi b F)(g:Gz b n o a)(x:Int):∃r,FA h F 119 [.ptr (some (bi,2)),.int .i64 x] r bi {b with Au:=B9 x b.Au}:=by obtain⟨d,e,c,tt,G,w,hc,rfl⟩:=w;have ho:=g.rm.Au;obtain⟨u,r2,hu⟩:=Ű w.sO (by omega) x;exact⟨_,_,_,r2,⟨d,u,c,tt,G,w.Pb hu,hc,rfl⟩,Cn⟩
def aFN(w:PB h bi b F)(g:Gz b n o a)(i:Item):FA h F 118 [.ptr (some (bi,2)),.agg i.row] (.tuple []) bi {b with Au:=b.Au++[i]}:=by obtain⟨d,e,c,tt,G,w,hc,rfl⟩:=w;have ho:=g.rm.Au;obtain⟨u,r2,hu⟩:=f95 w.sO (by omega) i;exact⟨_,_,r2,⟨d,u,c,tt,G,w.Pb hu,hc,rfl⟩,Cn⟩
def PB.sA(w:PB h bi b F):ky h (.ptr (some (bi,2))) b.Au:=by obtain⟨e,d,c,tt,G,w,hc,rfl⟩:=w;exact w.sA
def PB.MD(w:PB h bi b F):∃x,Bg h none (.ptr (some (bi,0)))=some (.ptr (some (x,0))):=by obtain⟨d,e,c,tt,G,w,hc,rfl⟩:=w;exact⟨d,w.l0⟩
def PB.B3(w:PB h bi b F):Bg h none (.ptr (some (bi,1)))=some (.int .i64 b.CB)/\Bg h none (.ptr (some (bi,4)))=some (.int .i64 b.mode)/\Bg h none (.ptr (some (bi,5)))=some (.int .i64 b.GM)/\Bg h none (.ptr (some (bi,7)))=some (.int .i64 b.head)/\Bg h none (.ptr (some (bi,8)))=some (.int .i64 b.FJ)/\Bg h none (.ptr (some (bi,14)))=some (.bool b.fs)/\Bg h none (.ptr (some (bi,18)))=some (.int .i64 b.sw)/\Bg h none (.ptr (some (bi,19)))=some (.bool b.stop):=by obtain⟨e,d,c,tt,G,w,hc,rfl⟩:=w;exact⟨w.ld 1,w.ld 4,w.ld 5,w.ld 7,w.ld 8,w.ld 14,w.ld 18,w.ld 19⟩
def PB.ltm(w:PB h bi b F):∃v,Bg h none (.ptr (some (bi,6)))=some v/\Hh b.tm v:=by obtain⟨e,d,c,tt,G,w,hc,rfl⟩:=w;exact⟨tt,w.l6,w.t⟩
def TR(w:PB h bi b F)(g:Gz b n o a)(s:Int){v:Aa}{ws:List Ad}(c:HT ws v)(hw:ws.length<=1000000000):Cj cx 213 [.ptr (some (bi,2)),.int .i64 s,v] h (.bool (b.Oq s (AA ws))) h:=
 aIh w.sA (by have:=g.rm.Au;omega) s c hw
def nX(w:PB h bi b F)(g:Gz b n o a)(s x:Int):Cj cx 214 [.ptr (some (bi,2)),.int .i64 s,.int .i64 x] h (.bool (b.Oq s (Bq x))) h:=
 aIi w.sA (by have:=g.rm.Au;omega) s x
def aFO(w:PB h bi b F)(g:Gz b n o a)(s:Ad):Cj cx 116 [.ptr (some (bi,2)),.str s] h (.int .i64 (Ax (AA [s]) b.Au)) h:=
 Ů w.sA (by have:=g.rm.Au;omega) s
def Ð(w:PB h bi b F)(i:Int):Cj cx 12 [.ptr (some (bi,2)),.int .i64 i] h (.agg (DT b.Au i).row) h:=We w.sA i
def VK(w:PB h bi b F):Cj cx 10 [.ptr (some (bi,2))] h (.int .i64 (b.Au.length:Int)) h:=UO w.sA
def nY(w:PB h bi b F)(g:Gz b n o a):Cj cx 175 [.ptr (some (bi,0))] h (.agg (En b.Au).row) h:=by obtain⟨e,d,c,tt,G,w,hc,rfl⟩:=w;exact aFo w g.rm
def Wr(h:Ae)(F:Nat->Prop)(bi k:Nat)(v:Aa)(b':BS):Prop:=CR h 1 (.ptr (some (bi,k))) v=some (put h bi k v)/\PB (put h bi k v) bi b' F/\Ey h F (put h bi k v) F
def Gk(w:PB h bi b F)(v:Int):Wr h F bi 4 (.int .i64 v) {b with mode:=v}:=by obtain⟨e,d,c,tt,G,w,hc,rfl⟩:=w;exact⟨w.st (k:=4) rfl rfl,⟨e,d,c,tt,G,w.put rfl rfl w.o w.t,hc,rfl⟩,Cn⟩
def Ñ(w:PB h bi b F)(v:Int):Wr h F bi 7 (.int .i64 v) {b with head:=v}:=by obtain⟨e,d,c,tt,G,w,hc,rfl⟩:=w;exact⟨w.st (k:=7) rfl rfl,⟨e,d,c,tt,G,w.put rfl rfl w.o w.t,hc,rfl⟩,Cn⟩
def iU(w:PB h bi b F)(v:Int):Wr h F bi 8 (.int .i64 v) {b with FJ:=v}:=by obtain⟨e,d,c,tt,G,w,hc,rfl⟩:=w;exact⟨w.st (k:=8) rfl rfl,⟨e,d,c,tt,G,w.put rfl rfl w.o w.t,hc,rfl⟩,Cn⟩
def LR(w:PB h bi b F)(v:Bool):Wr h F bi 14 (.bool v) {b with fs:=v}:=by obtain⟨e,d,c,tt,G,w,hc,rfl⟩:=w;exact⟨w.st (k:=14) rfl rfl,⟨e,d,c,tt,G,w.put rfl rfl w.o w.t,hc,rfl⟩,Cn⟩
def Ò(w:PB h bi b F)(v:Bool):Wr h F bi 17 (.bool v) {b with skip:=v}:=by obtain⟨e,d,c,tt,G,w,hc,rfl⟩:=w;exact⟨w.st (k:=17) rfl rfl,⟨e,d,c,tt,G,w.put rfl rfl w.o w.t,hc,rfl⟩,Cn⟩
def aOQ(w:PB h bi b F)(v:Int):Wr h F bi 18 (.int .i64 v) {b with sw:=v}:=by obtain⟨e,d,c,tt,G,w,hc,rfl⟩:=w;exact⟨w.st (k:=18) rfl rfl,⟨e,d,c,tt,G,w.put rfl rfl w.o w.t,hc,rfl⟩,Cn⟩
def aJD(w:PB h bi b F){v:Aa}{l:List Int}(d:Hh l v):Wr h F bi 6 v {b with tm:=l}:=by obtain⟨f,e,c,tt,G,w,hc,rfl⟩:=w;exact⟨w.st (k:=6) (v0:=tt) rfl (Br.cells d),⟨f,e,c,v,G,w.aFt d,hc,rfl⟩,Cn⟩
end
def Ov(c:UInt8):Bool:=decide ((9<=c.toNat/\c.toNat<=13)\/c.toNat=32)
def wf:Ad->Ad->List Ad
 |cur,[]=>if cur=[] then[] else[cur]
 |cur,c::r=>if Ov c then(if cur=[] then wf [] r else cur::wf [] r) else wf (cur++[c]) r
def iV:Bool->Ad->Nat
 |_,[]=>0
 |w,c::r=>(if w&& !Ov c then 1 else 0)+iV (Ov c) r
def fc(b:Bool):Int:=if b then 1 else 0
def UY:∀{s cur:Ad},(wf cur s).length=(if cur=[] then 0 else 1)+iV (decide (cur=[])) s
 |[],cur=>by unfold wf iV;split<;>simp_all
 |c::r,cur=>by
  unfold wf iV;by_cases hc:Ov c=true
  .by_cases h0:cur=[];.simp[hc,h0,UY (s:=r) (cur:=[])]
   .simp[hc,h0,UY (s:=r) (cur:=[])];omega
  .have Ut:Ov c=false:=by simpa using hc
   by_cases h0:cur=[];.simp[Ut,h0,UY (s:=r) (cur:=[c])]
   .simp[Ut,h0,UY (s:=r) (cur:=cur++[c])]
def fg:∀{s cur:Ad},(wf cur s).length<=s.length+1
 |[],cur=>by unfold wf;split<;>simp
 |c::r,cur=>by
  unfold wf;have h1:=fg (s:=r) (cur:=[]);have h2:=fg (s:=r) (cur:=cur++[c]);split;.split<;>simp only[AE]<;>omega
  .simp only[AE];omega
def fh{c:UInt8}(k:Option Nat)(hk:k=none){h:Ae}:∃v,Az (.Vc 256 1) [.B4 Hb,.int .u8 (c.toNat:Int)]=some v/\Bg h k v=some (.int .u8 (fc (Ov c))):=by
 subst hk;have key:∀n:Nat,n<256->Hb[n]?=some (.int .u8 (fc (decide ((9<=n/\n<=13)\/n=32)))):=by
  intro n hn;have h1:∀n,n<256->Ob[n]?=some (fc (decide ((9<=n/\n<=13)\/n=32))):=by decide+kernel
  rw[Hb,CE,h1 n hn];rfl
 have hc:=c.toNat_lt;have hi:MA (c.toNat:Int) 256=some c.toNat:=by unfold MA;rw[if_pos (by omega)];rfl
 refine⟨.B4 (Hb.drop (c.toNat*1)),by simp[Az,hi,WY],?_⟩;rw[OV,FQ,Cu,Gm,Bp,key _ hc];rfl
def aFP{s c:Nat}(hs:s<128)(hc:c<128):∃n:Nat,n<128/\Az (.int .or) [.int .u8 (s:Int),.int .u8 (c:Int)]=some (.int .u8 (n:Int)):=by
 have key:∀s:Nat,s<128->∀c:Nat,c<128->(match Az (.int .or) [.int .u8 (s:Int),.int .u8 (c:Int)] with|some (.int .u8 n)=>decide (0<=n/\n<128)|_=>false)=true:=by decide+kernel
 have h1:=key s hs c hc;split at h1;.rename_i n a;have:=BB h1;exact⟨n.toNat,by omega,by rw[a,Iz this.1]⟩
 .cases h1
def aFQ(w i:Bool):∃v,Az (.un .xor) [.int .i64 (fc i)]=some v/\Az (.int .and) [.int .i64 (fc w),v]=some (.int .i64 (if w&& !i then 1 else 0)):=by cases w<;>cases i<;>exact⟨_,rfl,rfl⟩
def aFR(i:Bool):IntKind.i64.wrap (fc i)=fc i:=by cases i<;>rfl
def fj{U:Type}(l:List U)(x y:U)(r:List U){k:Nat}(hk:k=l.length):(l++y::r).take k++[x]++(l++y::r).drop (k+1)=l++x::r:=by subst hk;simp
def aJE(s:Ad)(hs:s.length<=1000000)(ha:∀c∈s,c.toNat<128)(h:Ae):Cj cx 237 [.str s] h (.sl 1 ((wf [] s).map B1)) (h++[.DD]):=by
 have K:AN=140737488355328:=rfl;have O:=fg (s:=s) (cur:=[]);obtain⟨N,hNe⟩:∃N,N=(wf [] s).length:=⟨_,rfl⟩;rw[Ac,af,aEE];refine EK (i:=0) (λz:Nat×Bool×Nat×Nat=>[.int .i64 (z.1:Int),.int .i64 (fc z.2.1),.int .u8 (z.2.2.1:Int),.int .i64 (z.2.2.2:Int)]) (λz h1=>h1=h/\z.2.2.2<=s.length/\z.2.2.1<128/\z.1+iV z.2.1 (s.drop z.2.2.2)=iV true s) (λz=>s.length-z.2.2.2) (λz h1=>h1=h/\z.2.2.1<128/\z.1=N) (0,true,0,0) rfl ⟨rfl,AU _,by decide,by simp⟩ ?_ ?_
 .rintro⟨n,w,bits,i⟩ h1 ⟨rfl,hi,hb,hn⟩;simp only at hi hb hn;rcases A6 i s.length with hlt|HK
  .obtain⟨bits',RY,y⟩:=aFP hb (ha _ (Ay hlt));obtain⟨v,I,H⟩:=fh (c:=s[i]) none rfl (h:=h1);obtain⟨Q,p,d⟩:=aFQ w (Ov s[i]);have M:iV true s<=s.length+1:=by have:=UY (s:=s) (cur:=[]);simp at this;omega
   rw[Ap hlt,iV] at hn;have u:=Tn (a:=(n:Int)) (b:=if w&& !Ov s[i] then 1 else 0) (by split<;>omega) (by split<;>omega);have t:((n:Int)+if(w&& !Ov s[i])=true then 1 else 0)=((n+if(w&& !Ov s[i])=true then 1 else 0:Nat):Int):=by split<;>simp
   simp only[abS,show(i:Int)<(s.length:Int) by omega,GH hlt,y,I,H,Wy,aFR,p,d,u,t,CI (show i<9223372036854775807 by omega)];exact .next (_,Ov s[i],bits',i+1) rfl ⟨rfl,hlt,RY,by simp only;omega⟩ (by simp only;omega)
  .simp only[abS,show¬(i:Int)<(s.length:Int) by omega];refine .Jd (n,w,bits,i) rfl ⟨rfl,hb,?_⟩;rw[AH HK,iV] at hn;have:=UY (s:=s) (cur:=[]);simp at this;simp only;omega
 rintro⟨n,w,bits,i⟩ h1 ⟨rfl,hb,hn⟩;simp only at hb hn;subst hn;have y:SP h1 1 16 [S []] (.int .i64 (n:Int)) (.int .i64 (n:Int))=some (h1++[.cells (List.replicate n [S []]).flatten],.C7 h1.length 0 n 1):=by simp only[SP];rw[if_pos ⟨by omega,by omega,by simp;omega,rfl⟩];simp
 have I:(List.replicate n [S []]).flatten=List.replicate n (S []):=by
  clear y hNe O;induction n with
  |zero=>rfl
  |succ n ih=>rw[Lf,CF,ih];rfl
 rw[I] at y;have H:¬(128:Int)<=(bits:Int):=by omega
 simp only[abS,H];refine pF y ?_;refine EK (i:=2) (λi:Nat=>[.int .i64 (i:Int)]) (λi h2=>h2=h1++[.cells (List.replicate n (S []))]/\i<=s.length/\wf [] s=wf [] (s.drop i)) (λi=>s.length-i) (λi h2=>h2=h1++[.cells (List.replicate n (S []))]/\i<=s.length/\wf [] s=wf [] (s.drop i)/\∀hi:i<s.length,Ov s[i]=false) 0 rfl ⟨rfl,AU _,rfl⟩ ?_ ?_
 .rintro i h2 ⟨rfl,hi,hw⟩;rcases A6 i s.length with hlt|HK
  .obtain⟨v,p,d⟩:=fh (c:=s[i]) none rfl (h:=h1++[.cells (List.replicate n (S []))]);cases hsp:Ov s[i] with
   |true=>rw[hsp] at d;simp only[abS,show(i:Int)<(s.length:Int) by omega,GH hlt,p,d,fc,↓reduceIte,show(1:Int)≠0 by decide,ne_eq,CI (show i<9223372036854775807 by omega)];rw[Ap hlt,wf,hsp] at hw;exact .next (i+1) rfl ⟨rfl,hlt,by simpa using hw⟩ (by omega)
   |false=>rw[hsp] at d;simp only[abS,show(i:Int)<(s.length:Int) by omega,GH hlt,p,d,fc,Cp,↓reduceIte,ne_eq];exact .Jd i rfl ⟨rfl,hi,hw,λ_=>hsp⟩
  .simp only[abS,show¬(i:Int)<(s.length:Int) by omega];exact .Jd i rfl ⟨rfl,hi,hw,λh=>absurd h (by omega)⟩
 rintro i0 h2 ⟨rfl,D,C,qd⟩;simp only[Ce];refine EK (i:=4) (λz:List Ad×Nat×Nat=>[.int .i64 (z.1.length:Int),.int .i64 (z.2.1:Int),.int .i64 (z.2.2:Int)]) (λz h2=>h2=h1++[.cells (z.1.map Aa.str++List.replicate (n-z.1.length) (S []))]/\z.2.1<=z.2.2/\z.2.2<=s.length/\z.1++wf ((s.take z.2.2).drop z.2.1) (s.drop z.2.2)=wf [] s/\(z.2.1=z.2.2->∀hi:z.2.2<s.length,Ov s[z.2.2]=false)) (λz=>s.length-z.2.2)
  (λz h2=>h2=h1++[.cells (z.1.map Aa.str++List.replicate (n-z.1.length) (S []))]/\z.2.1<=s.length/\z.1++wf (s.drop z.2.1) []=wf [] s) ([],i0,i0) rfl ⟨by simp,Ab _,D,by simp[C,Z8],λ_=>qd⟩ ?_ ?_
 .rintro⟨dn,f,i⟩ h2 ⟨rfl,hf,hi,hw,hz⟩;simp only at hf hi hw hz;have qi:dn.length<=n:=by rw[hNe,<-hw,Ai];omega
  rcases A6 i s.length with hlt|HK
  .obtain⟨v,p,d⟩:=fh (c:=s[i]) none rfl (h:=h1++[.cells (dn.map Aa.str++List.replicate (n-dn.length) (S []))]);rw[Ap hlt] at hw;cases hsp:Ov s[i] with
   |false=>
    rw[hsp] at d;simp only[abS,show(i:Int)<(s.length:Int) by omega,GH hlt,p,d,fc,Cp,↓reduceIte,CI (show i<9223372036854775807 by omega)];rw[wf,hsp] at hw;refine .next (dn,f,i+1) rfl ⟨rfl,by simp only;omega,hlt,?_,λe=>by simp only at e;omega⟩ (by simp only;omega)
    simp only
    rw[mC hf hlt];simpa using hw
   |true=>
    rw[hsp] at d;have aU3:f<i:=by
     rcases A6 f i with h|h
     .exact h
     .have:=hz (by omega) hlt;rw[hsp] at this;cases this
    have aOR:(s.take i).drop f≠[]:=by intro e;have:=BQ List.length e;simp at this;omega
    rw[wf,hsp] at hw;simp only[BM,aOR,DU] at hw;have m:dn.length<n:=by rw[hNe,<-hw];simp
    have u:Az (.F0 1) [.C7 h1.length 0 n 1,.int .i64 (dn.length:Int)]=some (.ptr (some (h1.length,dn.length))):=by have:=Gy (id:=h1.length) (z:=1) (n:=n) (k:= .i64) m;rwa [Gm] at this
    have hcl:(dn.map Aa.str++List.replicate (n-dn.length) (S [])).length=n:=by simp;omega
    have t:CR (h1++[.cells (dn.map Aa.str++List.replicate (n-dn.length) (S []))]) 1 (.ptr (some (h1.length,dn.length))) (.str ((s.take i).drop f))=some (h1++[.cells ((dn++[(s.take i).drop f]).map Aa.str++List.replicate (n-(dn++[(s.take i).drop f]).length) (S []))]):=by
     have h3:(h1++[EE.cells (dn.map Aa.str++List.replicate (n-dn.length) (S []))])[h1.length]?=some (.cells (dn.map Aa.str++List.replicate (n-dn.length) (S []))):=by simp
     simp only[CR,h3,Q3,AR];rw[if_pos ⟨trivial,by rw[hcl];omega⟩,BI _ _ (Ab _),DM];have F:n-dn.length=(n-(dn.length+1))+1:=by omega
     have E:(dn.map Aa.str).length=dn.length:=Ao ..;simp only[jN,Cb,Bd,Dz,Ai,AR];rw[F,Lf,fj _ _ _ _ E.symm];simp
    simp only[abS,show(i:Int)<(s.length:Int) by omega,GH hlt,p,d,fc,↓reduceIte,show¬(1:Int)=0 by decide,Se (z:=0) (k:= .i64) (l:= .i64) (show f<=i by omega) hi,u,t,CI (show dn.length<9223372036854775807 by omega),CI (show i<9223372036854775807 by omega)];refine EK (i:=6) (λj:Nat=>[.int .i64 (j:Int)]) (λj h2=>h2=h1++[.cells ((dn++[(s.take i).drop f]).map Aa.str++List.replicate (n-(dn++[(s.take i).drop f]).length) (S []))]/\i<j/\j<=s.length/\wf [] (s.drop (i+1))=wf [] (s.drop j)) (λj=>s.length-j) (λj h2=>h2=h1++[.cells ((dn++[(s.take i).drop f]).map Aa.str++List.replicate (n-(dn++[(s.take i).drop f]).length) (S []))]/\i<j/\j<=s.length/\wf [] (s.drop (i+1))=wf [] (s.drop j)/\∀hj:j<s.length,Ov s[j]=false) (i+1) rfl ⟨rfl,by omega,hlt,rfl⟩ ?_ ?_
    .rintro j h2 ⟨rfl,o,hj,vZ⟩;rcases A6 j s.length with aP|L
     .obtain⟨v,J,A⟩:=fh (c:=s[j]) none rfl (h:=h1++[.cells ((dn++[(s.take i).drop f]).map Aa.str++List.replicate (n-(dn++[(s.take i).drop f]).length) (S []))]);cases g:Ov s[j] with
      |true=>rw[g] at A;simp only[abS,show(j:Int)<(s.length:Int) by omega,GH aP,J,A,fc,↓reduceIte,show(1:Int)≠0 by decide,ne_eq,CI (show j<9223372036854775807 by omega)];rw[Ap aP,wf,g] at vZ;exact .next (j+1) rfl ⟨rfl,by omega,aP,by simpa using vZ⟩ (by omega)
      |false=>rw[g] at A;simp only[abS,show(j:Int)<(s.length:Int) by omega,GH aP,J,A,fc,Cp,↓reduceIte,ne_eq];exact .Jd j rfl ⟨rfl,o,hj,vZ,λ_=>g⟩
     .simp only[abS,show¬(j:Int)<(s.length:Int) by omega];exact .Jd j rfl ⟨rfl,o,hj,vZ,λh=>absurd h (by omega)⟩
    .rintro j h2 ⟨rfl,o,hj,vZ,B⟩;simp only[Ce,↓reduceIte];refine .next (dn++[(s.take i).drop f],j,j) (by simp) ⟨rfl,Ab _,hj,?_,λ_=>B⟩ (by simp only;omega)
     simp only[Z8];rw[<-vZ,AT];exact hw
  .simp only[abS,show¬(i:Int)<(s.length:Int) by omega];have hie:i=s.length:=by omega
   refine .Jd (dn,f,i) rfl ⟨rfl,by simp only;omega,?_⟩;simp only
   rw[AH HK,hie,Bf] at hw;exact hw
 .rintro⟨dn,f,i⟩ h2 ⟨rfl,hf,hw⟩;simp only at hf hw;have fz:∀l:List Ad,l=wf [] s->Lt (h1++[.cells (l.map Aa.str)]) (.C7 h1.length 0 n 1)=some (h1++[.DD],.sl 1 ((wf [] s).map B1)):=by
   rintro l rfl;have hr:∀r∈(wf [] s).map B1,r.length=1:=λr hr=>by obtain⟨w,_,rfl⟩:=Bb.1 hr;rfl
   have P:((wf [] s).map B1).flatten=(wf [] s).map Aa.str:=by
    generalize wf [] s=q;induction q with
    |nil=>rfl
    |cons x q ih=>simp[B1,ih]
   have:=Og (h:=h1++[.cells ((wf [] s).map Aa.str)]) (id:=h1.length) hr (by rw[P];simp);rw[Ao,<-hNe] at this;rw[this,BI _ _ (Ab _),DM];rfl
  rcases A6 f s.length with hlt|HK
  .have hne:s.drop f≠[]:=by intro e;have:=BQ List.length e;simp at this;omega
   rw[wf,if_neg hne] at hw;have m:n=dn.length+1:=by rw[hNe,<-hw];simp
   have u:Az (.F0 1) [.C7 h1.length 0 n 1,.int .i64 (dn.length:Int)]=some (.ptr (some (h1.length,dn.length))):=by have:=Gy (id:=h1.length) (z:=1) (n:=n) (k:= .i64) (show dn.length<n by omega);rwa [Gm] at this
   have t:CR (h1++[.cells (dn.map Aa.str++List.replicate (n-dn.length) (S []))]) 1 (.ptr (some (h1.length,dn.length))) (.str (s.drop f))=some (h1++[.cells ((dn++[s.drop f]).map Aa.str)]):=by
    have h3:(h1++[EE.cells (dn.map Aa.str++List.replicate (n-dn.length) (S []))])[h1.length]?=some (.cells (dn.map Aa.str++List.replicate (n-dn.length) (S []))):=by simp
    have F:n-dn.length=1:=by omega
    have E:(dn.map Aa.str).length=dn.length:=Ao ..;simp only[CR,h3,Q3,AR];rw[if_pos ⟨trivial,by simp;omega⟩,BI _ _ (Ab _),DM,F,show List.replicate 1 (S [])=S []::[] from rfl,fj _ _ _ _ E.symm];simp
   simp only[abS,show(f:Int)<(s.length:Int) by omega,ll (z:=0) (k:= .i64) (show f<=s.length by omega),u,t,fz _ hw]
  .rw[AH HK,wf] at hw;simp only[BM,A8] at hw;have m:n-dn.length=0:=by rw[hNe,<-hw];omega
   have G:=fz _ hw;rw[m,List.replicate_zero,A8];simp only[abS,show¬(f:Int)<(s.length:Int) by omega,G]
section
variable{h h':Ae}{bi:Nat}{b b':BS}{F:Nat->Prop}{n o a:Nat}{t:Dv}{av:Aa}
def aJF(lo hi r:Int)(h:Ae):Cj cx 230 [.int .i32 r,.B4 [.int .i32 lo],.B4 [.int .i32 hi]] h (.bool (decide (lo<=r/\r<=hi))) h:=by rw[Ac,gJ,Ţ];simp only[Ce];refine⟨λh1=>by simp[h1],λh1=>by simp[h1]⟩
def VL(p:Int×Int):List Aa:=[.func (.func 230) [] [.B4 [.int .i32 p.1],.B4 [.int .i32 p.2]]]
def aJG{L:List (Int×Int)}(i:L.length<=1000)(r:Int)(h:Ae):Cj cx 229 [.int .i32 r,.B4 [.sl 1 (L.map VL)]] h (.bool (L.any λp=>decide (p.1<=r/\r<=p.2))) h:=by
 have c:Br 1 (L.map VL) (.sl 1 (L.map VL)):= .mk;have f:=Br.Fk c;rw[Ac,zX,aEA];simp only[Ce,f];refine BO (λn:Nat=>[ff,.int .i64 (n:Int)]) (λn h1=>n<=L.length/\h1=h/\L.any (λp=>decide (p.1<=r/\r<=p.2))=(L.drop n).any λp=>decide (p.1<=r/\r<=p.2)) (λn=>L.length-n) 0 rfl ⟨AU _,rfl,rfl⟩ ?_;rintro n h1 ⟨hn,rfl,ha⟩;rcases A6 n L.length with hlt|HK
 .have d:=Br.Dl (k:= .i64) c hlt;have g:∀x y:Int,CD (.func (.func 230) [] [.B4 [.int .i32 x],.B4 [.int .i32 y]]) [.int .i32 r]=some (230,[.int .i32 r,.B4 [.int .i32 x],.B4 [.int .i32 y]]):=λ_ _=>rfl;have e:=aJF L[n].1 L[n].2 r h1;rw[Ap hlt,SH] at ha;rw[VL] at d;simp only[abS,show(n:Int)<(L.length:Int) by omega,d,g,e.call,CI (show n<9223372036854775807 by omega)];refine⟨λh2=>?_,λh2=>?_⟩;.rw[ha];simp[h2]
  .rw[Ak h2,JE] at ha;exact Bk.next (n+1) rfl ⟨hlt,rfl,ha⟩ (by omega)
 .rw[AH HK] at ha;simp only[abS,show¬(n:Int)<(L.length:Int) by omega,ha,oT]
def aOT(r:Int):L4 cx 95 [.int .i32 r] (.bool (decide (qy r))):=by
 have d:∀(lo hi:Int) (h:Ae),Cj cx 174 [.int .i32 lo,.int .i32 hi] h (.func (.func 230) [] [.B4 [.int .i32 lo],.B4 [.int .i32 hi]]) h:=λlo hi h=>by rw[Ac,WG,zo];simp only[Ce]
 have j:∀(v:Aa) (h:Ae),v.cells=[v]->Cj cx 173 [v] h (.func (.func 229) [] [.B4 [v]]) h:=λv h f=>by rw[Ac,gB,Ś];simp only[Ce,f]
 have e:=aJG (L:=[(9,10),(12,13),(32,32)]) (by decide) r [];have c:Az (.Cl 1) [.func (.func 230) [] [.B4 [.int .i32 9],.B4 [.int .i32 10]],.func (.func 230) [] [.B4 [.int .i32 12],.B4 [.int .i32 13]],.func (.func 230) [] [.B4 [.int .i32 32],.B4 [.int .i32 32]]]=some (.sl 1 ([((9:Int),(10:Int)),(12,13),(32,32)].map VL)):=rfl;have g:∀v:Aa,CD (.func (.func 229) [] [v]) [.int .i32 r]=some (229,[.int .i32 r,v]):=λ_=>rfl;have r2:=j (.sl 1 ([((9:Int),(10:Int)),(12,13),(32,32)].map VL)) [] rfl;have i:decide (qy r)=([((9:Int),(10:Int)),(12,13),(32,32)].any λp=>decide (p.1<=r/\r<=p.2)):=by
  have c:qy r↔((9<=r/\r<=10)\/(12<=r/\r<=13)\/(32<=r/\r<=32)):=by unfold qy;omega
  simp only[SH,oT,SE,<-Bool.decide_or,DX];exact c
 rw[i,PJ,sR,t95];simp only[Ce,(d 9 10 []).call,(d 12 13 []).call,(d 32 32 []).call,c,r2.call,g,e.call]
structure KI(l:Ad)(ws:List Ad):Prop where
 len:l.length<=1000000
 asc:∀c∈l,c.toNat<128
 wf:wf [] l=ws
def NB{l:Ad}{ws:List Ad}(h:(decide (l.length<=1000000)&&l.all (λc=>decide (c.toNat<128))&&decide (wf [] l=ws))=true):KI l ws:=by simp only[A4,Ci,Dc] at h;exact⟨h.1.1,h.1.2,h.2⟩
def KI.few{l:Ad}{ws:List Ad}(w:KI l ws):ws.length<=1000001:=by have:=fg (s:=l) (cur:=[]);have:=w.len;rw[<-w.wf];omega
def Ó{l:Ad}{ws:List Ad}(w:KI l ws)(h:Ae):Cj cx 187 [.str l] h (.sl 1 (ws.map B1)) (h++[.DD]):=by have c:=aJE l w.len w.asc h;rw[w.wf] at c;rw[Ac,yW,aD9];simp only[Ce,c.call]
def tR{l:Ad}{ws:List Ad}(w:KI l ws)(s:Ad):L4 cx 109 [.str s,.str l] (.bool (decide (s∈ws))):=by have c:Cj cx 187 _ [] _ [.DD]:=Ó w [];have r2:=ŭ (CO (ws:=ws)) (by have:=w.few;omega) s [EE.DD];rw[PJ,fM,t109];simp only[Ce,c.call,r2.call]
def FZ{l:Ad}{ws:List Ad}(w:KI l ws)(t:Dv)(av:Aa)(h:Ae):Cj cx 66 [.agg (Ct t av),.str l] h (.bool (decide (t.st ws))) h:=by
 rw[Ac,yp,t66];simp only[Ce,(tR w t.name).AQ rfl rfl];refine⟨λh1=>?_,λh1=>?_⟩;.congr 2;unfold Dv.st;simp[h1]
 .unfold Dv.st;simp[h1]
def ZW{l:Ad}{ws:List Ad}(w:KI l ws)(t:Dv)(av:Aa)(h:Ae):Cj cx 72 [.agg (Ct t av),.str l] h (.bool (decide (t.en ws))) h:=by
 rw[Ac,yv,t72];simp only[Ce,(tR w t.name).AQ rfl rfl];refine⟨λh1=>?_,λh1=>?_⟩;.congr 2;unfold Dv.en;simp[h1]
 .unfold Dv.en;simp[h1]
def ZX{l:Ad}{ws:List Ad}(w:KI l ws)(t:Dv)(av:Aa)(h:Ae):Cj cx 65 [.agg (Ct t av),.str l] h (.bool (decide (t.nU ws))) h:=by
 rw[Ac,yo,t65];simp only[Ce,(tR w t.name).AQ rfl rfl];refine⟨λh1=>?_,λh1=>?_⟩;.congr 2;unfold Dv.nU;simp[h1]
 .unfold Dv.nU;simp[h1]
def TS(t:Dv)(av:Aa)(h:Ae):Cj cx 58 [.agg (Ct t av)] h (.bool (decide t.Ju)) h:=by
 rw[Ac,yk,t58];simp only[Ce,(aOT t.r).AQ rfl rfl];refine⟨λh1=>?_,λh1=>?_⟩;.congr 2;unfold Dv.Ju;simp[h1]
 .unfold Dv.Ju;simp[h1]
def Kc(w:PB h bi b F)(t:Dv)(av:Aa):Cj cx 34 [.ptr (some (bi,0)),.agg (Ct t av)] h (.bool (decide t.ok)) h:=by
 obtain⟨x,l0⟩:=w.MD;rw[Ac,ye,t34];simp only[abS,l0];refine⟨λh1=>?_,λh1=>?_⟩;.congr 2;unfold Dv.ok;simp[h1]
 .unfold Dv.ok;simp[h1]
def Ô(nm:Ad)(h:Ae):Cj cx 68 [.str nm] h (.agg (Ct (HG nm) .slnil)) h:=by rw[Ac,yr,t68];simp only[abS,Nat.reduceLeDiff,↓reduceIte,B6,HG]
def tS(w:PB h bi b F)(m:Int):FA h F 61 [.ptr (some (bi,0)),.int .i64 m] tt bi (b.again m).1:=by obtain⟨e,d,c⟩:=Gk w m;refine⟨_,_,?_,d,c⟩;rw[Ac,sP,t61];simp only[Ce,e]
def Sy(w:PB h bi b F)(g:Gz b n o a):Cj cx 84 [.ptr (some (bi,0))] h (.bool (decide b.Ql)) h:=by rw[Ac,zd,t84];simp only[Ce,(aFO w g AF).call];rfl
def tT(w:PB h bi b F)(g:Gz b (n+4) o a)(ht:t.Sm)(j:Bj t.Aq av):FA h F 70 [.ptr (some (bi,0)),.agg (Ct t av)] (.tuple []) bi (b.GO t):=by obtain⟨h1,l,i,f,d⟩:=E4 w g ht j;obtain⟨h2,k,r2,e,c⟩:=PD f (g.C6 ht);refine⟨h2,k,?_,e,d.trans c⟩;rw[Ac,yt,t70];simp only[Ce,i.call,r2.call]
end
end Go.Am
end
