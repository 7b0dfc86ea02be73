/- Lemmas -/
import Derived.Test.YtglbboamemndeaaGreatDoorS26
set_option linter.all false
noncomputable section
set_option maxRecDepth 100000
section
namespace Go.Am
open Go
structure DJ where
 k:Int
 name:Aj
 hn:Bool
 Jy:Aj
 hp:Bool
 sys:Aj
 hs:Bool
 q:Bool
 As:List AZ
 sc:Bool
 data:Aj
 r:Int
namespace DJ
def ok(t:DJ):Prop:=1<=t.k/\t.k<=6
instance(t:DJ):Decidable t.ok:=by unfold ok;infer_instance
def st(t:DJ)(ws:List Aj):Prop:=t.k=2/\t.name∈ws
instance(t:DJ)(ws:List Aj):Decidable (t.st ws):=by unfold st;infer_instance
def en(t:DJ)(ws:List Aj):Prop:=t.k=3/\t.name∈ws
instance(t:DJ)(ws:List Aj):Decidable (t.en ws):=by unfold en;infer_instance
def kL(t:DJ)(ws:List Aj):Prop:=t.k=3/\t.name∉ws
instance(t:DJ)(ws:List Aj):Decidable (t.kL ws):=by unfold kL;infer_instance
end DJ
def gm(r:Int):Prop:=(9<=r/\r<=10)\/(12<=r/\r<=13)\/r=32
instance(r:Int):Decidable (gm r):=by unfold gm;infer_instance
namespace DJ
def He(t:DJ):Prop:=t.k=5/\gm t.r
instance(t:DJ):Decidable t.He:=by unfold He;infer_instance
end DJ
def Ll(nm:Aj):DJ:=⟨2,nm,false,[],false,[],false,false,[],false,[],0⟩
def eHB:List Aj:=[aQj,aQk,aQg,[98,114]]
def tj:List Aj:=[aQj,aQh,aQk,aQg,[98,114]]
def uO:List Aj:=[aQh,aQk,aQg,[98,114]]
def eNo:List Aj:=[aQn,[98,114]]
def SO:List Aj:=[[98,97,115,101],aRz,aRG,aSd,[109,101,116,97]]
def J_:List Aj:=[aRx,aRZ]
def aAw:List Aj:=[aRz,aRG,aSd,[109,101,116,97],aRx,aRZ]
def sHN:List Aj:=[aQj,aQn]
def Ga:List Aj:=[[98,97,115,101],aRz,aRG,aSd,[109,101,116,97],aRx,aQy,aRZ,aQh,aQq]
def sT1:List Aj:=[aQD,aQP,aQV,aQU,aQW]
def sTd:List Aj:=[[116,100],[116,104]]
def jL:List Aj:=[aRH,[97,114,116,105,99,108,101],[97,115,105,100,101],aRM,[99,101,110,116,101,114],[100,101,116,97,105,108,115],[100,105,97,108,111,103],[100,105,114],[100,105,118],[100,108],aRU,aRN,[102,105,103,117,114,101],[102,111,111,116,101,114],[104,101,97,100,101,114],[104,103,114,111,117,112],[109,97,105,110],[109,101,110,117],[110,97,118],[111,108],[112],[115,101,97,114,99,104],[115,101,99,116,105,111,110],[115,117,109,109,97,114,121],[117,108]]
def K_:List Aj:=[[112,114,101],[108,105,115,116,105,110,103]]
def L_:List Aj:=[[98],[98,105,103],[99,111,100,101],[101,109],[102,111,110,116],[105],[115],[115,109,97,108,108],[115,116,114,105,107,101],[115,116,114,111,110,103],[116,116],[117]]
def oH:List Aj:=[aRu,aRm,aRA]
def jM:List Aj:=[[97,114,101,97],[98,114],[101,109,98,101,100],aRV,aRJ,[107,101,121,103,101,110],[119,98,114],aRF,aRP,aRv,aRQ,[104,114]]
def yI:List Aj:=[aQD,aRS,aQP,[102,114,97,109,101],aQj,aQV,[116,100],aQU,[116,104],aQW,[116,114]]
def M_:List Aj:=[aRc,aR9,aRw,[110,111,101,109,98,101,100],aQ6]
def yJ:List Aj:=[[114,98],aRD,[114,112],[114,116]]
def N_:List Aj:=[aRK,[115,118,103]]
def yK:List Aj:=[[108,105],[100,100],[100,116]]
def O_:List Aj:=[aQN,aQx]
def PJ:List Aj:=[aQg,aQk]
def jN:List Aj:=[aRH,[97,114,116,105,99,108,101],[97,115,105,100,101],aRM,aQi,[99,101,110,116,101,114],[100,101,116,97,105,108,115],[100,105,97,108,111,103],[100,105,114],[100,105,118],[100,108],aRU,aRN,[102,105,103,117,114,101],[102,111,111,116,101,114],[104,101,97,100,101,114],[104,103,114,111,117,112],[108,105,115,116,105,110,103],[109,97,105,110],[109,101,110,117],[110,97,118],[111,108],[112,114,101],[115,101,97,114,99,104],[115,101,99,116,105,111,110],[115,117,109,109,97,114,121],[117,108]]
def P_:List Aj:=[[97],[98],[98,105,103],[99,111,100,101],[101,109],[102,111,110,116],[105],aQE,[115],[115,109,97,108,108],[115,116,114,105,107,101],[115,116,114,111,110,103],[116,116],[117]]
def yL:List Aj:=[[112],[108,105],[100,100],[100,116]]
def Y4:List Aj:=[aRH,[100,105,118],[112]]
def wDD:List Aj:=[[100,100],[100,116]]
def Q_:List Aj:=[aRP,aRv,aRQ]
namespace BS
def Cz(b:BS)(t:DJ):BS:=b.DY t.name t.As 1
def Js(b:BS)(t:DJ):BS:=(b.Cz t).Hj
def Y5(b:BS):BS:={b with a:=b.a.set b.Cl {b.a.nd b.Cl with CL:=true}}
def QU(b:BS)(t:DJ):BS:={b with a:=(b.a.add {kind:=3,Cl:=b.Cl,name:=t.name,Jy:=t.Jy,sys:=t.sys}).IF b.Cl (b.a.len+1) 0}
def again(b:BS)(m:Int):BS×Bool:=({b with mode:=m},true)
def Vj(b:BS):Prop:=0<=AW (Bf [A5]) b.AA
instance(b:BS):Decidable b.Vj:=by unfold Vj;infer_instance
def has(b:BS)(ws:List Aj):Bool:=Px (Bf ws) (Oa 1) b.AA.reverse
def Ds(b:BS)(nm ex:Aj):BS:={b with AA:=Dd Da (Bf [nm]) (Dd (EG ex) Da b.AA)}
def Hp(b:BS)(t:DJ):BS:=if b.Vj\/b.AA=[] then b else b.Fh t.As (DO b.AA 0).node
def Lm(b:BS):Bool:=decide (2<=b.AA.length)&&Bf [aQk] (DO b.AA 1)
def Kt(b:BS)(t:DJ):BS:=
 if b.Vj\/b.AA=[] then b else if t.name=aQg then b.Fh t.As (DO b.AA 0).node
 else if b.Lm then({b with fs:=false}:BS).Fh t.As (DO b.AA 1).node else b
def Ht(CL:DJ->Bool)(b:BS)(t:DJ):BS×Bool:=
 if¬t.ok then(b,false)
 else if t.He then(b,false)
 else if t.k=4 then(b.C1 t.data b.Cl,false)
 else if t.k≠1 then b.Y5.again 2
 else
  let b1:=b.QU t
  let b2:=if CL t then b1.Y5 else b1
  ({b2 with mode:=2},false)
def D7(b:BS)(t:DJ):BS×Bool:=
 if¬t.ok then(b,false)
 else if t.k=1 then(b,false)
 else if t.He then(b,false)
 else if t.kL eHB then(b,false)
 else if t.k=4 then(b.C1 t.data b.Cl,false)
 else if t.st [aQg] then({b.Cz t with mode:=3},false)
 else(b.Cz (Ll aQg)).again 3
def D8(b:BS)(t:DJ):BS×Bool:=
 if¬t.ok then(b,false)
 else if t.k=1 then(b,false)
 else if t.He then(b,false)
 else if t.kL eHB then(b,false)
 else if t.k=4 then(b.C1 t.data 0,false)
 else if t.st [aQg] then(b.Hp t,false)
 else if t.st [aQj] then({b.Cz t with head:=b.Nz 1,mode:=4},false)
 else({b.Cz (Ll aQj) with head:=b.Nz 1}:BS).again 4
def CJ(b:BS)(t:DJ):BS×Bool:=
 if¬t.ok then(b,false)
 else if t.k=1 then(b,false)
 else if t.st [aQj] then(b,false)
 else if t.kL tj then(b,false)
 else if t.He then(b.Mm t.r,false)
 else if t.k=4 then(b.C1 t.data 0,false)
 else if t.st [aQg] then(b.Hp t,false)
 else if t.st SO then(b.Js t,false)
 else if t.st [aQq] then(b.Df t.name t.As 2,false)
 else if t.st J_ then(b.Df t.name t.As 3,false)
 else if t.st [aQy] then(b.Df t.name t.As 4,false)
 else if t.st [aQn] then({b.Cz t with mode:=5},false)
 else if t.en [aQj] then({b.Hj with mode:=6},false)
 else if t.st [A5] then
  let b1:=b.Cz t
  ({b1 with AY:=b1.AY++[Ci.zero],fs:=false,mode:=18,tm:=b1.tm++[18]},false)
 else if t.en [A5] then(b.CR,false)
 else b.Hj.again 6
def D9(b:BS)(t:DJ):BS×Bool:=
 if¬t.ok then(b,false)
 else if t.k=1 then(b,false)
 else if t.st sHN then(b,false)
 else if t.kL eNo then(b,false)
 else if t.st [aQg] then(b.Hp t,false)
 else if t.en [aQn] then({b.Hj with mode:=4},false)
 else if t.He then b.CJ t
 else if t.k=4 then b.CJ t
 else if t.st aAw then b.CJ t
 else b.Hj.again 4
def EC(n:Int):Item:=⟨n,1,aQj,false⟩
def FM(b:BS)(t:DJ):BS×Bool:=
 let r:=({b with AA:=b.AA++[EC b.head]}:BS).CJ t
 ({r.1 with AA:=Cv b.head r.1.AA},r.2)
def Gk(b:BS)(t:DJ):BS×Bool:=
 if¬t.ok then(b,false)
 else if t.k=1 then(b,false)
 else if t.st [aQj] then(b,false)
 else if t.kL uO then(b,false)
 else if t.He then(b.Mm t.r,false)
 else if t.k=4 then(b.C1 t.data 0,false)
 else if t.st [aQg] then(b.Hp t,false)
 else if t.st [aQk] then({b.Cz t with fs:=false,mode:=7},false)
 else if t.st [aQp] then({b.Cz t with mode:=20},false)
 else if t.st Ga then b.FM t
 else if t.en [A5] then b.CJ t
 else(b.Cz (Ll aQk)).again 7
def Jc(b:BS)(t:DJ):BS×Bool:=
 if¬t.ok then(b,false)
 else if t.k=5 then(b.Mm t.r,false)
 else if t.k=6 then b.Hj.again b.Qu
 else if t.k=3 then({b.Hj with mode:=b.Qu},false)
 else(b,false)
def aAx(b:BS):BS:={b with tm:=b.tm.dropLast}
def GV(b:BS)(m:Int):BS×Bool:=({b with tm:=b.tm.dropLast++[m]}:BS).again m
def L9(b:BS)(t:DJ):BS:=
 if t.r=0 then b else
 let b1:=b.AU.Mm t.r
 if t.He then b1 else{b1 with fs:=false}
def M2(b:BS):BS×Bool:=
 if b.Vj then(({b with AA:=Dd Da (Bf [A5]) b.AA,AY:=Fz b.AY,tm:=b.tm.dropLast}:BS).IW,true)
 else({b with stop:=true},false)
def Dv(b:BS)(t:DJ):BS×Bool:=
 if¬t.ok then(b,false)
 else if t.k=5 then(b.L9 t,false)
 else if t.k=4 then(b.C1 t.data 0,false)
 else if t.k=1 then(b,false)
 else if t.st Ga then b.CJ t
 else if t.en [A5] then b.CJ t
 else if t.st sT1 then b.GV 9
 else if t.st [aRS] then b.GV 12
 else if t.st [[116,114]] then b.GV 13
 else if t.st sTd then b.GV 14
 else if t.k=2 then b.GV 7
 else if t.k=3 then(b,false)
 else b.M2
def block(b:BS)(t:DJ):BS:=b.B7.Cz t
def JY(b:BS)(t:DJ):BS:=
 let b1:=b.B7
 (if Bf C9 (Fs b1.AA) then b1.Hj else b1).Cz t
def Tm(b:BS)(t:DJ):BS:={b.block t with skip:=true,fs:=false}
def PK(b:BS)(t:DJ):BS:=
 if b.IG≠0/\¬b.Vj then b else
 let b1:=b.B7
 if b.Vj then b1.Cz t else{b1.Cz t with IG:=b1.Nz 1}
def Jd(ws:List Aj)(i:Item):Bool:=Bf ws i||(Dp i&& !(Bf Y4 i))
def HG(b:BS)(ws:List Aj):BS:=match b.AA.reverse.find? (Jd ws) with
 |some i=>if Bf ws i then b.Ds i.name i.name else b
 |none=>b
def Y6(b:BS)(t:DJ):BS:=(({b with fs:=false}:BS).HG (if t.name=[108,105] then[[108,105]] else wDD)).block t
def M3(b:BS)(t:DJ):BS:=
 let b1:=if b.has [aQi] then b.Ds aQi [] else b
 {b1.AU.Cz t with fs:=false}
def tk(b:BS)(t:DJ):BS:=b.AU.FY t.name t.As
def JZ(l:List Ci)(n:Int):List Ci:=if Fy n l<0 then l else Bv l (Fy n l).toNat
def QV(b:BS):BS:=
 let k:=E3 [97] b.AY
 if k<0 then b else
 let n:=(b.AY.getD k.toNat Ci.zero).node
 let b1:=b.Dh [97]
 {b1 with AY:=JZ b1.AY n,AA:=Cv n b1.AA}
def jO(b:BS)(t:DJ):BS:=b.QV.tk t
def Y7(b:BS)(t:DJ):BS:=
 let b1:=b.AU
 (if b1.has [aQE] then(b1.Dh aQE).AU else b1).FY t.name t.As
def BO(b:BS)(t:DJ):BS:=
 let b1:=b.AU.Cz t
 {b1 with AY:=b1.AY++[Ci.zero],fs:=false}
def Ma(b:BS)(t:DJ):BS:=
 let b1:=if(b.a.nd b.Cl).CL then b else b.B7
 {b1.Cz t with fs:=false,mode:=9}
def PL(l:List AZ):Bool:=match l.find? λa=>decide (a.name=aRj) with
 |some a=>decide (EM a.value=aQ3)
 |none=>false
def empty(b:BS)(t:DJ):BS:=
 if t.name=[104,114] then{b.B7.Js t with fs:=false}
 else if t.name∈Q_ then{b.Js t with fs:=b.fs}
 else if t.name=aRF then{b.AU.Js t with fs:=b.fs&&PL t.As}
 else{b.AU.Js {t with name:=if t.name=aRJ then aRV else t.name} with fs:=false}
def tn(b:BS)(t:DJ):BS:=
 if t.name=aQ6 then{b.block t with sw:=5}
 else if t.name=aRc then{b.Df t.name t.As 2 with skip:=true,fs:=false}
 else if t.name=aR9 then({b.B7.AU with fs:=false}:BS).Df t.name t.As 3
 else if t.name=aRw then({b with fs:=false}:BS).Df t.name t.As 3
 else b.Df t.name t.As 3
def Ov(b:BS)(t:DJ):BS:=
 {b.AU.Cz t with fs:=false,mode:=if b.mode=9\/b.mode=11\/b.mode=13\/b.mode=14\/b.mode=15 then 17 else 16}
def M4(b:BS)(t:DJ):BS:=(if Bf [aQx] (Fs b.AA) then b.Hj else b).AU.Cz t
def Yf(b:BS)(t:DJ):BS:=
 (if b.has [aRn] then{b with AA:=Dd (EG (if t.name=[114,112]\/t.name=[114,116] then aRD else[])) Da b.AA} else b).Cz t
def J0(b:BS)(t:DJ):BS:=
 let b1:=b.AU.DY t.name t.As (if t.name=aRK then 3 else 2)
 if t.sc then b1.Hj else b1
def Hg(b:BS)(t:DJ):BS:=
 if b.Lm=false\/b.fs=false then b else
 {({b with a:=b.a.cut (DO b.AA 1).node,AA:=b.AA.take 1}:BS).Cz t with mode:=20}
def opens(b:BS)(t:DJ):BS×Bool:=
 if t.name∈Ga then b.CJ t
 else if t.name∈jL then(b.block t,false)
 else if t.name∈C9 then(b.JY t,false)
 else if t.name∈K_ then(b.Tm t,false)
 else if t.name∈L_ then(b.tk t,false)
 else if t.name∈oH then(b.BO t,false)
 else if t.name∈jM then(b.empty t,false)
 else if t.name∈yI then(b,false)
 else if t.name∈M_ then(b.tn t,false)
 else if t.name∈yJ then(b.Yf t,false)
 else if t.name∈N_ then(b.J0 t,false)
 else if t.name∈yK then(b.Y6 t,false)
 else if t.name∈O_ then(b.M4 t,false)
 else if t.name∈PJ then(b.Kt t,false)
 else if t.name=aQp then(b.Hg t,false)
 else if t.name=aQT then(b.PK t,false)
 else if t.name=aQi then(b.M3 t,false)
 else if t.name=[97] then(b.jO t,false)
 else if t.name=aQE then(b.Y7 t,false)
 else if t.name=aQu then(b.Ma t,false)
 else if t.name=aQQ then(b.Ov t,false)
 else(b.AU.Cz t,false)
def Ow(b:BS)(t:DJ):BS×Bool:=if b.has [aQk] then({b with mode:=19},decide (t.name=aQg)) else(b,false)
def Gx(b:BS)(t:DJ):BS:=if b.has [t.name] then b.Ds t.name [] else b
def Ku(b:BS):BS:=if b.has C9 then{b with AA:=Dd Da (Bf C9) (Dd (EG []) Da b.AA)} else b
def LJ(b:BS)(t:DJ):BS:=if b.has [t.name] then{b.Ds t.name [] with AY:=Fz b.AY} else b
def OM(b:BS)(sc:Int)(q:Item->Bool):Bool:=Px q (Oa sc) b.AA.reverse
def J1(b:BS)(t:DJ):BS:=
 let s:=b.OM (if t.name=[112] then 3 else if t.name=[108,105] then 2 else 1) (Bf [t.name])
 if s then b.Ds t.name t.name
 else if t.name=[112] then(b.Cz (Ll [112])).Ds t.name t.name else b
def MJ(b:BS)(t:DJ):BS:=
 if b.Vj then b.Gx t
 else if b.IG≠0/\b.OM 1 (BK b.IG) then{b with IG:=0,AA:=Cv b.IG (Dd (EG []) Da b.AA)}
 else{b with IG:=0}
def Ln(b:BS)(t:DJ):BS×Bool:=
 if t.name=A5 then b.CJ t
 else if t.name∈PJ then b.Ow t
 else if t.name∈jN then(b.Gx t,false)
 else if t.name∈P_ then(b.Dh t.name,false)
 else if t.name∈C9 then(b.Ku,false)
 else if t.name∈oH then(b.LJ t,false)
 else if t.name∈yL then(b.J1 t,false)
 else if t.name=aQT then(b.MJ t,false)
 else if t.name=[98,114] then(b.empty (Ll [98,114]),false)
 else(b.C6 t.name,false)
def Je(b:BS)(t:DJ):BS×Bool:=
 if¬t.ok then(b,false)
 else if t.k=5 then(b.L9 t,false)
 else if t.k=4 then(b.C1 t.data 0,false)
 else if t.k=6 then(if 0<b.tm.length then b.Dv t else({b with stop:=true},false))
 else if t.k=2 then b.opens t
 else if t.k=3 then b.Ln t
 else(b,false)
def apply(CL:DJ->Bool)(b:BS)(t:DJ):BS×Bool:=
 if¬t.ok then(b,false)
 else if b.mode=1 then b.Ht CL t
 else if b.mode=2 then b.D7 t
 else if b.mode=3 then b.D8 t
 else if b.mode=4 then b.CJ t
 else if b.mode=5 then b.D9 t
 else if b.mode=6 then b.Gk t
 else if b.mode=7 then b.Je t
 else if b.mode=8 then b.Jc t
 else if b.mode=18 then b.Dv t
 else(b,false)
end BS
structure Gz(b:BS)(n o a:Nat):Prop where
 ok:E0 b
 rm:Cf b n
 AA:b.AA.length<=o
 AY:b.AY.length<=a
structure DJ.Sm(t:DJ):Prop where
 name:t.name.length<=1000
 As:E1 t.As
 data:t.data.length<=1000
 r: -2147483648<=t.r/\t.r<=2147483647
section
variable{b b':BS}{n n' o o' a a':Nat}{nm:Aj}{l:List AZ}{t:DJ}{sp:Int}
def Gz.le(g:Gz b n o a)(h1:n'<=n)(h2:o<=o')(c:a<=a'):Gz b n' o' a':=⟨g.ok,g.rm.le h1,Bn g.AA h2,Bn g.AY c⟩
def Gz.ite{c:Prop}[Decidable c]{x y:BS×Bool}(h1:Gz x.1 n o a)(h2:Gz y.1 n o a):Gz (if c then x else y).1 n o a:=by split;exact h1;exact h2
def Gz.aAy{d c:Prop}[Decidable d][Decidable c]{x y:BS×Bool}(h1:Gz x.1 n o a)(h2:Gz y.1 n o a):Gz (if d then x else if c then x else y).1 n o a:= .ite h1 (.ite h1 h2)
def Gz.aEH{e d c:Prop}[Decidable e][Decidable d][Decidable c]{x y:BS×Bool}(h1:Gz x.1 n o a)(h2:Gz y.1 n o a):Gz (if e then x else if d then x else if c then x else y).1 n o a:= .ite h1 (.aAy h1 h2)
def Gz.tq{f e d c:Prop}[Decidable f][Decidable e][Decidable d][Decidable c]{x y:BS×Bool}(h1:Gz x.1 n o a)(h2:Gz y.1 n o a):Gz (if f then x else if e then x else if d then x else if c then x else y).1 n o a:= .ite h1 (.aEH h1 h2)
def Gz.dn(g:Gz b n o a)(h:n'<=n):Gz b n' o a:=g.le h (Ab _) (Ab _)
def Gz.MN(g:Gz b (n+4) o a)(hl:E1 l)(hn:nm.length<=1000):Gz (b.DY nm l sp) n (o+1) a:=by
 refine⟨Rh g.ok,JR g.rm hl hn,?_,by rw[EA];exact g.AY⟩;have:=g.AA;unfold BS.DY;split
 .rename_i hs;have e:(b.E7 nm l sp (b.place 0).1).AA=b.AA:=by unfold BS.E7;rw[Ag hs]
  simp only[e,Ao,AS];omega
 .omega
def Gz.eq{c:BS}(g:Gz b n o a)(h1:c.a=b.a)(h2:c.Cl=b.Cl)(e:c.AA=b.AA)(d:c.AY=b.AY)(f:c.tm=b.tm):Gz c n o a:=
 ⟨g.ok.of_eq h1 h2 e d,g.rm.eq h1 e d f,by rw[e];exact g.AA,by rw[d];exact g.AY⟩
def Gz.sub(g:Gz b n o a){lo:List Item}{lc:List Ci}{lt:List Int}(h1:lo.Sublist b.AA)(h2:lc.Sublist b.AY)(c:lt.length<=b.tm.length):Gz {b with AA:=lo,AY:=lc,tm:=lt} n o a:=
 ⟨((g.ok.IH h1).nG (by exact h2)).of_eq rfl rfl rfl rfl,g.rm.sub rfl h1 h2 c,Bn h1.length_le g.AA,Bn h2.length_le g.AY⟩
def Gz.IH(g:Gz b n o a){lo:List Item}(h1:lo.Sublist b.AA):Gz {b with AA:=lo} n o a:=g.sub h1 (AE _) (Ab _)
def Gz.FY(g:Gz b (n+5) o a)(hl:E1 l)(hn:nm.length<=1000):Gz (b.FY nm l) n (o+1) (a+1):=by
 have g1:=(g.le (n':=n+1+4) Ac (Ab _) (Ab _)).MN (sp:=1) hl hn;refine⟨ZY g.ok,Us g.rm hl hn,g1.AA,?_⟩;unfold BS.FY;simp only
 obtain⟨l',h1,h2⟩:=Sj (l:=(b.DY nm l 1).AY) (e:=⟨b.a.len+1,nm,l⟩);rw[h2,Ao,AS];have:=h1.length_le;have:=g1.AY;omega
def Gz.AU(g:Gz b (n+4*a) o a):Gz b.AU n (o+a) a:=by have h1:=g.AY;have h2:=g.AA;have h:=SI (m:=n) (g.rm.le Ac);exact⟨XF g.ok,h.1,Ac,Ac⟩
def Gz.Dh(g:Gz b (n+8*(4*(o+8)+10)) o a):Gz (b.Dh nm) n (o+8) (a+8):=by
 refine⟨Z3 g.ok,?_,?_,?_⟩<;>unfold BS.Dh<;>split
 .unfold BS.Hj;split;.exact g.rm.le Ac
  .exact(g.rm.IH (Ca _ _)).le Ac
 .exact(MH g.AA g.rm).1
 .have:=g.AA;unfold BS.Hj;split;.omega
  .simp only[AB];omega
 .exact(MH g.AA g.rm).2
 .have:=g.AY;unfold BS.Hj;split<;>(try simp only)<;>omega
 .have:=g.AY;have:=Rn (n:=8) (b:=b) (nm:=nm);omega
def Gz.Mm(g:Gz b (n+5) o a){r:Int}:Gz (b.Mm r) n o a:=⟨xN g.ok,Uu g.rm (X2 _),g.AA,g.AY⟩
def Gz.C1(g:Gz b (n+5) o a){s:Aj}(hs:s.length<=1000){p:Int}:Gz (b.C1 s p) n o a:=by
 refine⟨XD g.ok,?_,g.AA,g.AY⟩;unfold BS.C1;split;.exact JW g.rm Ac
 .exact JW g.rm Ac
def Gz.Fh(g:Gz b (n+1000) o a)(hl:E1 l){h:Int}:Gz (b.Fh l h) n o a:=by
 refine⟨nH g.ok,X9 g.rm hl.1,?_,?_⟩<;>unfold BS.Fh<;>split;.exact g.AA
 .exact g.AA
 .exact g.AY
 .exact g.AY
def Gz.Hj(g:Gz b n o a):Gz b.Hj n o a:=by
 unfold BS.Hj;split;.exact g
 .exact g.IH (Ca _ _)
def Gz.Ds(g:Gz b n o a){x:Aj}:Gz (b.Ds nm x) n o a:=g.IH (Cq.trans Cq)
def Gz.B7(g:Gz b n o a):Gz b.B7 n o a:=by
 unfold BS.B7;split;.exact g.IH (Cq.trans Cq)
 .exact g
def Gz.C6(g:Gz b n o a):Gz (b.C6 nm) n o a:=by
 unfold BS.C6;split
 .split;.exact g.IH (Ho.trans Cq)
  .exact g
 .exact g
def Gz.IW(g:Gz b n o a):Gz b.IW n o a:=g.eq rfl rfl rfl rfl rfl
def Gz.mark(g:Gz b (n+1) o a):Gz {b with AY:=b.AY++[Ci.zero]} n o (a+1):=by
 refine⟨jH g.ok,g.rm.xP (e:=Ci.zero) Ax (λe he=>?_) ⟨AM,AM,λa ha=>by cases ha⟩,g.AA,?_⟩
 .rcases Aq.1 he with he|he
  .exact .inl he
  .exact .inr (by simpa using he)
 .have:=g.AY;simp only[Ao,AS];omega
def Gz.tm(g:Gz b (n+1) o a){m:Int}:Gz {b with tm:=b.tm++[m]} n o a:=by have r:=g.rm;have c:=r.le (m':=n) Ac;exact⟨g.ok.of_eq rfl rfl rfl rfl,⟨c.n,c.at_,c.data,c.AA,c.AY,by have:=r.tm;simp only[Ao,AS];omega,c.DD,c.Z4⟩,g.AA,g.AY⟩
def Gz.CR(g:Gz b n o a):Gz b.CR n o a:=by
 unfold BS.CR;split;.exact g
 .exact(g.sub (lo:=Dd Da (Bf [A5]) (Dd DT Da b.AA)) (lc:=Fz b.AY) (lt:=b.tm.dropLast) (Cq.trans Cq) (Ca _ _) Ax).IW
def Gz.Df(g:Gz b (n+4) o a){s:Int}(hl:E1 l)(hn:nm.length<=1000):Gz (b.Df nm l s) n (o+1) a:=(g.MN (sp:=1) hl hn).eq rfl rfl rfl rfl rfl
def Gz.Cz(g:Gz b (n+4) o a)(ht:t.Sm):Gz (b.Cz t) n (o+1) a:=g.MN ht.As ht.name
def I4(h:nm.length<=1000):(Ll nm).Sm:=⟨h,⟨show([]:List AZ).length<=1000 by decide,λa ha=>by cases ha⟩,(AM:([]:Aj).length<=1000),show(-2147483648:Int)<=0/\(0:Int)<=2147483647 by decide⟩
def Gz.Js(g:Gz b (n+4) o a)(ht:t.Sm):Gz (b.Js t) n (o+1) a:=(g.Cz ht).Hj
def Gz.Hp(g:Gz b (n+1000) o a)(ht:t.Sm):Gz (b.Hp t) n o a:=by
 unfold BS.Hp;split;.exact g.le Ac (Ab _) (Ab _)
 .exact g.Fh ht.As
def Gz.CJ(g:Gz b (n+1004) o a)(ht:t.Sm):Gz (b.CJ t).1 n (o+1) (a+1):=by have g0:Gz b n (o+1) (a+1):=g.le Ac Ac Ac;have d:Gz b (n+4) o a:=g.le Ac Ac Ac;unfold BS.CJ;refine .tq g0 (.ite ((g.le (n':=n+5) Ac (Ab _) (Ab _)).Mm.le (Ab _) Ac Ac) (.ite (((g.le (n':=n+5) Ac (Ab _) (Ab _)).C1 ht.data).le (Ab _) Ac Ac) (.ite (((g.le (n':=n+1000) Ac (Ab _) (Ab _)).Hp ht).le (Ab _) Ac Ac) (.ite ((d.Js ht).le (Ab _) Ac Ac) (.ite ((d.Df ht.As ht.name).le (Ab _) Ac Ac) (.ite ((d.Df ht.As ht.name).le (Ab _) Ac Ac) (.ite ((d.Df ht.As ht.name).le (Ab _) Ac Ac) (.ite (((d.Cz ht).le (Ab _) Ac Ac).eq rfl rfl rfl rfl rfl) (.ite ((d.Hj.le Ac Ac Ac).eq rfl rfl rfl rfl rfl) (.ite ?_ (.ite (d.CR.le Ac Ac Ac) ((d.Hj.le Ac Ac Ac).eq (c:={b.Hj with mode:=6}) rfl rfl rfl rfl rfl))))))))))));exact((((g.le (n':=n+2+4) Ac (Ab _) (Ab _)).Cz ht).mark.tm (m:=18)).eq rfl rfl rfl rfl rfl)
def Gz.D9(g:Gz b (n+1004) o a)(ht:t.Sm):Gz (b.D9 t).1 n (o+1) (a+1):=by have g0:Gz b n (o+1) (a+1):=g.le Ac Ac Ac;unfold BS.D9;exact .tq g0 (.ite (((g.le (n':=n+1000) Ac (Ab _) (Ab _)).Hp ht).le (Ab _) Ac Ac) (.ite (g0.Hj.eq rfl rfl rfl rfl rfl) (.aEH (g.CJ ht) (g0.Hj.eq (c:={b.Hj with mode:=4}) rfl rfl rfl rfl rfl))))
def Gz.Jc(g:Gz b (n+5) o a):Gz (b.Jc t).1 n o a:=by have g0:Gz b n o a:=g.le Ac Ac Ac;unfold BS.Jc;exact .ite g0 (.ite g.Mm (.ite (g0.Hj.eq (c:={b.Hj with mode:=b.Qu}) rfl rfl rfl rfl rfl) (.ite (g0.Hj.eq (c:={b.Hj with mode:=b.Qu}) rfl rfl rfl rfl rfl) g0)))
def Gz.L9(g:Gz b (n+4*a+5) o a):Gz (b.L9 t) n (o+a) a:=by
 have g1:Gz (b.AU.Mm t.r) n (o+a) a:=(g.le (n':=n+5+4*a) Ac (Ab _) (Ab _)).AU.Mm;unfold BS.L9;split;.exact g.le Ac Ac (Ab _)
 .split;.exact g1
  .exact g1.eq rfl rfl rfl rfl rfl
def Gz.M2(g:Gz b n o a):Gz b.M2.1 n o a:=by
 unfold BS.M2;split;.exact(g.sub (lo:=Dd Da (Bf [A5]) b.AA) (lc:=Fz b.AY) (lt:=b.tm.dropLast) Cq (Ca _ _) Ax).IW
 .exact g.eq rfl rfl rfl rfl rfl
def Gz.GV(g:Gz b (n+1) o a){m:Int}:Gz (b.GV m).1 n o a:=by have g1:=(g.sub (lo:=b.AA) (lc:=b.AY) (lt:=b.tm.dropLast) (AE _) (AE _) Ax).tm (m:=m);exact g1.eq rfl rfl rfl rfl rfl
def Gz.Dv(g:Gz b (n+4*a+1005) o a)(ht:t.Sm):Gz (b.Dv t).1 n (o+a+1) (a+1):=by have g0:Gz b n (o+a+1) (a+1):=g.le Ac Ac Ac;have gf:∀m,Gz (b.GV m).1 n (o+a+1) (a+1):=λm=>(g.le (n':=n+1) Ac (Ab _) (Ab _)).GV.le (Ab _) Ac Ac;unfold BS.Dv;exact .ite g0 (.ite ((g.le (n':=n+4*a+5) Ac (Ab _) (Ab _)).L9.le (Ab _) Ac Ac) (.ite (((g.le (n':=n+5) Ac (Ab _) (Ab _)).C1 ht.data).le (Ab _) Ac Ac) (.ite g0 (.aAy (((g.le (n':=n+1004) Ac (Ab _) (Ab _)).CJ ht).le (Ab _) Ac Ac) (.ite (gf 9) (.ite (gf 12) (.ite (gf 13) (.ite (gf 14) (.ite (gf 7) (.ite g0 g0.M2))))))))))
def Gz.block(g:Gz b (n+4) o a)(ht:t.Sm):Gz (b.block t) n (o+1) a:=g.B7.Cz ht
def Gz.JY(g:Gz b (n+4) o a)(ht:t.Sm):Gz (b.JY t) n (o+1) a:=by
 unfold BS.JY;refine Gz.Cz ?_ ht;split;.exact g.B7.Hj
 .exact g.B7
def Gz.Tm(g:Gz b (n+4) o a)(ht:t.Sm):Gz (b.Tm t) n (o+1) a:=(g.block ht).eq rfl rfl rfl rfl rfl
def Gz.PK(g:Gz b (n+4) o a)(ht:t.Sm):Gz (b.PK t) n (o+1) a:=by
 unfold BS.PK;split;.exact g.le Ac Ac (Ab _)
 .simp only;split;.exact g.B7.Cz ht
  .exact(g.B7.Cz ht).eq rfl rfl rfl rfl rfl
def Gz.HG(g:Gz b n o a){ws:List Aj}:Gz (b.HG ws) n o a:=by
 unfold BS.HG;split
 .split;.exact g.Ds
  .exact g
 .exact g
def Gz.Y6(g:Gz b (n+4) o a)(ht:t.Sm):Gz (b.Y6 t) n (o+1) a:=(g.eq (c:={b with fs:=false}) rfl rfl rfl rfl rfl).HG.block ht
def Gz.M3(g:Gz b (n+4*a+4) o a)(ht:t.Sm):Gz (b.M3 t) n (o+a+1) a:=by
 have g1:Gz (if b.has [aQi] then b.Ds aQi [] else b) (n+4+4*a) o a:=by
  split;.exact g.Ds.le Ac (Ab _) (Ab _)
  .exact g.le Ac (Ab _) (Ab _)
 exact(g1.AU.Cz ht).eq rfl rfl rfl rfl rfl
def Gz.tk(g:Gz b (n+4*a+5) o a)(ht:t.Sm):Gz (b.tk t) n (o+a+1) (a+1):=((g.le (n':=n+5+4*a) Ac (Ab _) (Ab _)).AU.FY ht.As ht.name)
def PM{l:List Ci}{x:Int}:(BS.JZ l x).Sublist l:=by
 unfold BS.JZ;split;.exact AE _
 .exact CZ
def Gz.QV(g:Gz b (n+8*(4*(o+8)+10)) o a):Gz b.QV n (o+8) (a+8):=by
 unfold BS.QV;simp only;split;.exact g.le Ac Ac Ac
 .exact g.Dh.sub Gv PM (Ab _)
def Gz.jO(g:Gz b (n+8*(4*(o+8)+10)+4*(a+8)+5) o a)(ht:t.Sm):Gz (b.jO t) n (o+a+17) (a+9):=
 (Gz.tk ((g.le (n':=n+4*(a+8)+5+8*(4*(o+8)+10)) Ac (Ab _) (Ab _)).QV) ht).le (Ab _) Ac (Ab _)
def Gz.Y7(g:Gz b (n+8*(4*(o+a+8)+10)+8*a+100) o a)(ht:t.Sm):Gz (b.Y7 t) n (o+2*a+17) (a+9):=by
 have g1:Gz b.AU (n+5+4*(a+8)+8*(4*(o+a+8)+10)) (o+a) a:=(g.le Ac (Ab _) (Ab _)).AU;have g2:Gz (if b.AU.has [aQE] then(b.AU.Dh aQE).AU else b.AU) (n+5) (o+a+8+(a+8)) (a+8):=by
  split;.exact g1.Dh.AU
  .exact g1.le Ac Ac Ac
 exact(g2.FY ht.As ht.name).le (Ab _) Ac (Ab _)
def Gz.BO(g:Gz b (n+4*a+5) o a)(ht:t.Sm):Gz (b.BO t) n (o+a+1) (a+1):=
 (((g.le (n':=n+1+4+4*a) Ac (Ab _) (Ab _)).AU.Cz ht).mark).eq rfl rfl rfl rfl rfl
def Gz.Ma(g:Gz b (n+4) o a)(ht:t.Sm):Gz (b.Ma t) n (o+1) a:=by
 have g1:Gz (if(b.a.nd b.Cl).CL then b else b.B7) (n+4) o a:=by
  split;.exact g
  .exact g.B7
 exact(g1.Cz ht).eq rfl rfl rfl rfl rfl
def DJ.Sm.rn(ht:t.Sm)(h:nm.length<=1000):({t with name:=nm}:DJ).Sm:=⟨h,ht.As,ht.data,ht.r⟩
def Gz.empty(g:Gz b (n+4*a+4) o a)(ht:t.Sm):Gz (b.empty t) n (o+a+1) a:=by
 have d:Gz b (n+4) o a:=g.le Ac (Ab _) (Ab _);have c:Gz b.AU (n+4) (o+a) a:=(g.le Ac (Ab _) (Ab _)).AU;unfold BS.empty;split;.exact((d.B7.Js ht).le (Ab _) Ac (Ab _)).eq rfl rfl rfl rfl rfl
 .split;.exact((d.Js ht).le (Ab _) Ac (Ab _)).eq rfl rfl rfl rfl rfl
  .split;.exact(c.Js ht).eq rfl rfl rfl rfl rfl
   .exact(c.Js (ht.rn (by split;exact AM;exact ht.name))).eq rfl rfl rfl rfl rfl
def Gz.tn(g:Gz b (n+4*a+4) o a)(ht:t.Sm):Gz (b.tn t) n (o+a+1) a:=by
 have d:Gz b (n+4) o a:=g.le Ac (Ab _) (Ab _);have e:Gz b.B7.AU (n+4) (o+a) a:=(g.B7.le Ac (Ab _) (Ab _)).AU;unfold BS.tn;split;.exact((d.block ht).le (Ab _) Ac (Ab _)).eq rfl rfl rfl rfl rfl
 .split;.exact((d.Df (s:=2) ht.As ht.name).le (Ab _) Ac (Ab _)).eq rfl rfl rfl rfl rfl
  .split;.exact(e.eq (c:={b.B7.AU with fs:=false}) rfl rfl rfl rfl rfl).Df ht.As ht.name
   .split;.exact((d.eq (c:={b with fs:=false}) rfl rfl rfl rfl rfl).Df ht.As ht.name).le (Ab _) Ac (Ab _)
    .exact(d.Df ht.As ht.name).le (Ab _) Ac (Ab _)
def Gz.Ov(g:Gz b (n+4*a+4) o a)(ht:t.Sm):Gz (b.Ov t) n (o+a+1) a:=
 ((g.le (n':=n+4+4*a) Ac (Ab _) (Ab _)).AU.Cz ht).eq rfl rfl rfl rfl rfl
def Gz.M4(g:Gz b (n+4*a+4) o a)(ht:t.Sm):Gz (b.M4 t) n (o+a+1) a:=by
 have g1:Gz (if Bf [aQx] (Fs b.AA) then b.Hj else b) (n+4+4*a) o a:=by
  split;.exact g.Hj.le Ac (Ab _) (Ab _)
  .exact g.le Ac (Ab _) (Ab _)
 exact g1.AU.Cz ht
def Gz.Yf(g:Gz b (n+4) o a)(ht:t.Sm):Gz (b.Yf t) n (o+1) a:=by
 unfold BS.Yf;refine Gz.Cz ?_ ht;split;.exact g.IH Cq
 .exact g
def Gz.J0(g:Gz b (n+4*a+4) o a)(ht:t.Sm):Gz (b.J0 t) n (o+a+1) a:=by
 have g1:=(g.le (n':=n+4+4*a) Ac (Ab _) (Ab _)).AU.MN (sp:=if t.name=aRK then 3 else 2) ht.As ht.name;unfold BS.J0;simp only;split;.exact g1.Hj
 .exact g1
def Ux(h:b.Lm=true):DO b.AA 1∈b.AA.tail:=by
 unfold BS.Lm at h;simp only[A7,Co] at h;obtain⟨h,_⟩:=h;revert h;generalize b.AA=l;intro h;match l,h with
 |x::y::l,_=>exact aJS
def oI{x:Int}:MZ b.a (b.a.cut x):=by
 unfold Ar.cut;simp only;split;.exact .refl
 .exact MZ.trans TE TF
def Gz.Hg(g:Gz b (n+4) o a)(ht:t.Sm):Gz (b.Hg t) n (o+1) a:=by
 unfold BS.Hg;split;.exact g.le Ac Ac (Ab _)
 .rename_i h;have h2:b.Lm=true:=by
   cases hs:b.Lm;.exact absurd (.inl hs) h
   .rfl
  have hi:=g.ok.op _ (Ux h2);have g1:Gz {b with a:=b.a.cut (DO b.AA 1).node} (n+4) o a:=⟨g.ok.Iw (cQ g.ok.ok hi.1 (by rw[hi.2];decide)) sL,g.rm.Iw oI,g.AA,g.AY⟩;exact((g1.IH (lo:=b.AA.take 1) (Ca _ _)).Cz ht).eq rfl rfl rfl rfl rfl
def Gz.Kt(g:Gz b (n+1000) o a)(ht:t.Sm):Gz (b.Kt t) n o a:=by
 have g0:Gz b n o a:=g.le Ac (Ab _) (Ab _);unfold BS.Kt;split;.exact g0
 .split;.exact g.Fh ht.As
  .split;.exact(g.eq (c:={b with fs:=false}) rfl rfl rfl rfl rfl).Fh ht.As
   .exact g0
def Gz.opens(g:Gz b (n+8*(4*(o+a+8)+10)+8*a+2000) o a)(ht:t.Sm):Gz (b.opens t).1 n (o+2*a+17) (a+9):=by
 have ge:∀{m},m<=n+8*(4*(o+a+8)+10)+8*a+2000->Gz b m o a:=λh=>g.le h (Ab _) (Ab _);unfold BS.opens;exact .ite (((ge Ac).CJ ht).le (Ab _) Ac Ac)
  (.ite (((ge Ac).block ht).le (Ab _) Ac Ac)
  (.ite (((ge Ac).JY ht).le (Ab _) Ac Ac)
  (.ite (((ge Ac).Tm ht).le (Ab _) Ac Ac)
  (.ite (((ge Ac).tk ht).le (Ab _) Ac Ac)
  (.ite (((ge Ac).BO ht).le (Ab _) Ac Ac)
  (.ite (((ge Ac).empty ht).le (Ab _) Ac Ac)
  (.ite (ge (m:=n) Ac |>.le (Ab _) Ac Ac)
  (.ite (((ge Ac).tn ht).le (Ab _) Ac Ac)
  (.ite (((ge Ac).Yf ht).le (Ab _) Ac Ac)
  (.ite (((ge Ac).J0 ht).le (Ab _) Ac Ac)
  (.ite (((ge Ac).Y6 ht).le (Ab _) Ac Ac)
  (.ite (((ge Ac).M4 ht).le (Ab _) Ac Ac)
  (.ite (((ge Ac).Kt ht).le (Ab _) Ac Ac)
  (.ite (((ge Ac).Hg ht).le (Ab _) Ac Ac)
  (.ite (((ge Ac).PK ht).le (Ab _) Ac Ac)
  (.ite (((ge Ac).M3 ht).le (Ab _) Ac Ac)
  (.ite (((ge Ac).jO ht).le (Ab _) Ac Ac)
  (.ite (((ge Ac).Y7 ht).le (Ab _) Ac Ac)
  (.ite (((ge Ac).Ma ht).le (Ab _) Ac Ac)
  (.ite (((ge Ac).Ov ht).le (Ab _) Ac Ac)
  (((ge (m:=n+4+4*a) Ac).AU.Cz ht).le (Ab _) Ac Ac)))))))))))))))))))))
def Gz.Gx(g:Gz b n o a):Gz (b.Gx t) n o a:=by
 unfold BS.Gx;split;.exact g.Ds
 .exact g
def Gz.J1(g:Gz b (n+4) o a):Gz (b.J1 t) n (o+1) a:=by
 have g0:Gz b n (o+1) a:=g.le Ac Ac (Ab _);unfold BS.J1;dsimp only;generalize b.OM _ _=q;cases q
 .by_cases h:t.name=[112];.simp only[Ch,DR,Ag h];exact(g.Cz (I4 (nm:=[112]) (AM:([112]:Aj).length<=1000))).Ds
  .simp only[Ch,DR,Af h];exact g0
 .exact g0.Ds
def Gz.Ln(g:Gz b (n+8*(4*(o+a+8)+10)+8*a+2000) o a)(ht:t.Sm):Gz (b.Ln t).1 n (o+2*a+17) (a+9):=by
 have ge:∀{m},m<=n+8*(4*(o+a+8)+10)+8*a+2000->Gz b m o a:=λh=>g.le h (Ab _) (Ab _);have g0:Gz b n (o+2*a+17) (a+9):=g.le Ac Ac Ac;unfold BS.Ln;refine .ite (((ge Ac).CJ ht).le (Ab _) Ac Ac)
  (.ite ?_ (.ite g0.Gx (.ite (((ge (m:=n+8*(4*(o+8)+10)) Ac).Dh).le (Ab _) Ac Ac)
  (.ite ?_ (.ite ?_ (.ite (((ge (m:=n+4) Ac).J1).le (Ab _) Ac Ac) (.ite ?_
  (.ite (((ge (m:=n+4*a+4) Ac).empty (I4 (nm:=[98,114]) AM)).le (Ab _) Ac Ac) g0.C6))))))))
 .unfold BS.Ow;split;.exact g0.eq rfl rfl rfl rfl rfl
  .exact g0
 .unfold BS.Ku;split;.exact g0.IH (Cq.trans Cq)
  .exact g0
 .unfold BS.LJ;split;.exact(g0.sub (lo:=(b.Ds t.name []).AA) (lc:=Fz b.AY) (lt:=b.tm) (Cq.trans Cq) (Ca _ _) (Ab _)).eq rfl rfl rfl rfl rfl
  .exact g0
 .unfold BS.MJ;split;.exact g0.Gx
  .split;.exact(g0.IH (lo:=Cv b.IG (Dd (EG []) Da b.AA)) (Gv.trans Cq)).eq rfl rfl rfl rfl rfl
   .exact g0.eq rfl rfl rfl rfl rfl
def Gz.Je(g:Gz b (n+8*(4*(o+a+8)+10)+8*a+2000) o a)(ht:t.Sm):Gz (b.Je t).1 n (o+2*a+17) (a+9):=by
 have ge:∀{m},m<=n+8*(4*(o+a+8)+10)+8*a+2000->Gz b m o a:=λh=>g.le h (Ab _) (Ab _);have g0:Gz b n (o+2*a+17) (a+9):=g.le Ac Ac Ac;unfold BS.Je;exact .ite g0 (.ite (((ge (m:=n+4*a+5) Ac).L9).le (Ab _) Ac Ac)
  (.ite (((ge (m:=n+5) Ac).C1 ht.data).le (Ab _) Ac Ac)
  (.ite (.ite (((ge (m:=n+4*a+1005) Ac).Dv ht).le (Ab _) Ac Ac) (g0.eq rfl rfl rfl rfl rfl))
  (.ite (g.opens ht) (.ite (g.Ln ht) g0)))))
def Gz.Y5(g:Gz b n o a):Gz b.Y5 n o a:=by have hd:=g.ok.Cl;have hk:=g.ok.ok.QN _ hd.1;refine⟨g.ok.Iw (sE g.ok.ok hd.1 ⟨hk.k,hk.Bm,hk.elem,hk.nm,hk.dt,hk.data,λh=>absurd hd.2 h,hk.sp,hk.nv,hk.CC,hk.QM,hk.MB,hk.root,hk.m0⟩ rfl rfl rfl ⟨(g.ok.ok.Cl _ hd.1).1,(g.ok.ok.Cl _ hd.1).2,g.ok.ok.Xq _ hd.1⟩ rfl rfl λc=>c) (Xz rfl rfl rfl),g.rm.Iw (XH rfl rfl),g.AA,g.AY⟩
def Gz.QU(g:Gz b (n+1) o a):Gz (b.QU t) n o a:=by
 have hd:=g.ok.Cl;have hx:sC {kind:=3,Cl:=b.Cl,name:=t.name,Jy:=t.Jy,sys:=t.sys}:=by constructor<;>simp[CC,Gu,US]
 have i5:=Rg g.ok.ok hx (.inr ⟨Ax,hd⟩) rfl rfl rfl rfl (λh=>absurd h.1 (AM:¬(3:Int)=4));refine⟨g.ok.Iw (Qa i5) (Xy.trans Qc),?_,g.AA,g.AY⟩;exact(g.rm.ID (KU (y:={kind:=3,Cl:=b.Cl,name:=t.name,Jy:=t.Jy,sys:=t.sys}) Ax Ax)).Iw Kr
def Gz.Ht{d:DJ->Bool}(g:Gz b (n+5) o a)(ht:t.Sm):Gz (b.Ht d t).1 n o a:=by
 have g0:Gz b n o a:=g.le Ac (Ab _) (Ab _);unfold BS.Ht;refine .aAy g0 (.ite (g.C1 ht.data) (.ite (g0.Y5.eq (c:={b.Y5 with mode:=2}) rfl rfl rfl rfl rfl) ?_));have g1:Gz (b.QU t) n o a:=(g.le (n':=n+1) Ac (Ab _) (Ab _)).QU;simp only;split;.exact g1.Y5.eq rfl rfl rfl rfl rfl
 .exact g1.eq rfl rfl rfl rfl rfl
def Gz.D7(g:Gz b (n+5) o a)(ht:t.Sm):Gz (b.D7 t).1 n (o+1) a:=by have d:Gz b (n+4) o a:=g.le Ac (Ab _) (Ab _);unfold BS.D7;exact .tq (d.le Ac Ac (Ab _)) (.ite ((g.C1 ht.data).le (Ab _) Ac (Ab _)) (.ite ((d.Cz ht).eq rfl rfl rfl rfl rfl) ((d.Cz (I4 (nm:=aQg) AM)).eq (c:={b.Cz (Ll aQg) with mode:=3}) rfl rfl rfl rfl rfl)))
def Gz.D8(g:Gz b (n+1000) o a)(ht:t.Sm):Gz (b.D8 t).1 n (o+1) a:=by have d:Gz b (n+4) o a:=g.le Ac (Ab _) (Ab _);have e:Gz b (n+5) o a:=g.le Ac (Ab _) (Ab _);unfold BS.D8;exact .tq (d.le Ac Ac (Ab _)) (.ite ((e.C1 ht.data).le (Ab _) Ac (Ab _)) (.ite ((g.Hp ht).le (Ab _) Ac (Ab _)) (.ite ((d.Cz ht).eq rfl rfl rfl rfl rfl) ((d.Cz (I4 (nm:=aQj) AM)).eq (c:={b.Cz (Ll aQj) with head:=b.Nz 1,mode:=4}) rfl rfl rfl rfl rfl))))
end
def Fc(h:Ai)(F:Nat->Prop)(f:FuncId)(args:List Aa)(r:Aa)(bi:Nat)(b':BS):Prop:=∃h' F',B2 cx f args h r h'/\PB h' bi b' F'/\EH h F h' F'
abbrev B1(t:DJ)(av:Aa):List Aa:=[I t.k,.str t.name,.bool t.hn,.str t.Jy,.bool t.hp,.str t.sys,.bool t.hs,.bool t.q,av,.bool t.sc,.str t.data,.int .i32 t.r]
section
variable{h h':Ai}{bi:Nat}{b b':BS}{F:Nat->Prop}{n o a:Nat}{t:DJ}{av:Aa}
def Mb:XY t.name av (B1 t av):=⟨_,_,_,_,_,_,_,_,_,_,rfl⟩
def EW(w:PB h bi b F)(g:Gz b (n+4) o a)(ht:t.Sm)(hv:A6 t.As av):Fc h F 47 [Pt bi 0,.agg (B1 t av)] (I (b.Nz 1)) bi (b.Cz t):=by obtain⟨d,f,c,tt,G,w,hc,rfl⟩:=w;obtain⟨h',o',e,r,w',x⟩:=di (m:=n) w g.ok g.rm Mb hv ht.As ht.name;exact⟨h',_,r,⟨d,o',c,tt,e,w',by unfold BS.Cz;rw[EA];exact hc,rfl⟩,x⟩
def jP(w:PB h bi b F)(g:Gz b (n+4) o a)(ht:t.Sm)(hv:A6 t.As av)(sp:Int):Fc h F 49 [Pt bi 0,.agg (B1 t av),I sp] (I (b.Nz sp)) bi (b.DY t.name t.As sp):=by obtain⟨d,f,c,tt,G,w,hc,rfl⟩:=w;obtain⟨h',o',e,r,w',x⟩:=aAb (m:=n) w g.ok g.rm Mb hv ht.As ht.name sp;exact⟨h',_,r,⟨d,o',c,tt,e,w',by rw[EA];exact hc,rfl⟩,x⟩
def tr(w:PB h bi b F)(g:Gz b (n+5) o a)(ht:t.Sm)(hv:A6 t.As av):Fc h F 50 [Pt bi 0,.agg (B1 t av)] (I (b.a.len+1)) bi (b.FY t.name t.As):=by obtain⟨d,f,c,tt,G,w,hc,rfl⟩:=w;obtain⟨h',o',c',e,r,w',OZ,x⟩:=aDZ (m:=n) w hc g.ok g.rm Mb hv ht.As ht.name;exact⟨h',_,r,⟨d,o',c',tt,e,w',OZ,rfl⟩,x⟩
def Yg(w:PB h bi b F)(g:Gz b (n+5) o a){r:Int}(hr: -2147483648<=r/\r<=2147483647):Fc h F 51 [Pt bi 0,.int .i32 r] (.tuple []) bi (b.Mm r):=by obtain⟨e,d,c,tt,G,w,hc,rfl⟩:=w;obtain⟨h',f,r,w',x⟩:=aD5 (m:=n) w g.ok g.rm r hr;exact⟨h',_,r,⟨e,d,c,tt,f,w',hc,rfl⟩,x⟩
def LK(w:PB h bi b F)(g:Gz b (n+1) o a){s:Aj}(hs:s.length<=100000)(x:Int):Fc h F 52 [Pt bi 0,.str s,I x] (.tuple []) bi (b.C1 s x):=by obtain⟨e,d,c,tt,G,w,hc,rfl⟩:=w;obtain⟨h',f,r,w',x⟩:=aD6 (m:=n) w g.ok g.rm s hs x;exact⟨h',_,r,⟨e,d,c,tt,f,w',hc,rfl⟩,x⟩
def Yh(w:PB h bi b F)(g:Gz b (n+4) o a)(ht:t.Sm)(hv:A6 t.As av)(s:Int):Fc h F 53 [Pt bi 0,.agg (B1 t av),I s] (.tuple []) bi (b.Df t.name t.As s):=by obtain⟨d,f,c,tt,G,w,hc,rfl⟩:=w;obtain⟨h',o',e,r,w',x⟩:=aAe (m:=n) w g.ok g.rm Mb hv ht.As ht.name s;exact⟨h',_,r,⟨d,o',c,tt,e,w',by show Dn (b.DY t.name t.As 1).AY c;rw[EA];exact hc,rfl⟩,x⟩
def IY(w:PB h bi b F)(g:Gz b n o a):Fc h F 54 [Pt bi 0] (.tuple []) bi b.B7:=by obtain⟨d,f,c,tt,G,w,hc,rfl⟩:=w;obtain⟨h',o',r,w',x⟩:=aD7 w g.rm;exact⟨h',_,r,⟨d,o',c,tt,G,w',by have e:b.B7.AY=b.AY:=(by unfold BS.B7;split<;>rfl);rw[e];exact hc,rfl⟩,x⟩
def CV(w:PB h bi b F)(g:Gz b (n+4*a) o a):Fc h F 55 [Pt bi 0] (.tuple []) bi b.AU:=by obtain⟨d,f,c,tt,G,w,hc,rfl⟩:=w;obtain⟨h',o',c',e,r,w',OZ,x⟩:=aEl (m:=n) w hc g.ok (g.rm.le (by have:=g.AY;omega));exact⟨h',_,r,⟨d,o',c',tt,e,w',OZ,rfl⟩,x⟩
def tw(w:PB h bi b F)(g:Gz b n o a)(nm:Aj):Fc h F 56 [Pt bi 0,.str nm] (.tuple []) bi (b.C6 nm):=by obtain⟨d,f,c,tt,G,w,hc,rfl⟩:=w;obtain⟨h',o',r,w',x⟩:=aAf w g.rm nm;exact⟨h',_,r,⟨d,o',c,tt,G,w',by have e:(b.C6 nm).AY=b.AY:=(by unfold BS.C6;split;split<;>rfl;rfl);rw[e];exact hc,rfl⟩,x⟩
def R_(w:PB h bi b F)(g:Gz b n o a):Fc h F 58 [Pt bi 0] (.tuple []) bi b.IW:=by obtain⟨e,d,c,tt,G,w,hc,rfl⟩:=w;obtain⟨h',r,w',x⟩:=so w g.rm;exact⟨h',_,r,⟨e,d,c,tt,G,w',hc,rfl⟩,x⟩
def yM(w:PB h bi b F)(g:Gz b (n+1000) o a)(ht:t.Sm)(hv:A6 t.As av)(x:Int):Fc h F 59 [Pt bi 0,.agg (B1 t av),I x] (.tuple []) bi (b.Fh t.As x):=by obtain⟨f,d,c,tt,G,w,hc,rfl⟩:=w;obtain⟨h',i,r,w',x⟩:=aEd (m:=n) w g.ok g.rm Mb hv ht.As x;exact⟨h',_,r,⟨f,d,c,tt,i,w',by have e:∀y,(b.Fh t.As y).AY=b.AY:=(λy=>by unfold BS.Fh;split<;>rfl);rw[e];exact hc,rfl⟩,x⟩
def aAz(w:PB h bi b F)(g:Gz b n o a):Fc h F 60 [Pt bi 0] (.tuple []) bi b.CR:=by obtain⟨d,e,c,tt,G,w,hc,rfl⟩:=w;obtain⟨h',o',c',t',r,w',OZ,x⟩:=aEe w hc g.rm;exact⟨h',_,r,⟨d,o',c',t',G,w',OZ,rfl⟩,x⟩
def tz(w:PB h bi b F):Fc h F 61 [Pt bi 0] (.tuple []) bi {b with stop:=true}:=by obtain⟨e,d,c,tt,G,w,hc,rfl⟩:=w;obtain⟨h',r,w',x⟩:=aEi w;exact⟨h',_,r,⟨e,d,c,tt,G,w',hc,rfl⟩,x⟩
def Yi(w:PB h bi b F)(g:Gz b (n+8*(4*(o+8)+10)) o a)(nm:Aj):Fc h F 57 [Pt bi 0,.str nm] (.tuple []) bi (b.Dh nm):=by obtain⟨d,f,c,tt,G,w,hc,rfl⟩:=w;obtain⟨h',o',c',e,r,w',OZ,x⟩:=aEy (m:=n) w hc g.ok (g.rm.le (by have:=g.AA;omega)) nm;exact⟨h',_,r,⟨d,o',c',tt,e,w',OZ,rfl⟩,x⟩
def ON(w:PB h bi b F)(g:Gz b n o a):Fc h F 64 [Pt bi 2] (.agg b.sK.row) bi b.Hj:=by obtain⟨d,f,c,tt,G,w,hc,rfl⟩:=w;obtain⟨h',o',r,w',x⟩:=A_ w g.rm;exact⟨h',_,r,⟨d,o',c,tt,G,w',by have e:b.Hj.AY=b.AY:=(by unfold BS.Hj;split<;>rfl);rw[e];exact hc,rfl⟩,x⟩
def t_(w:PB h bi b F)(g:Gz b n o a):Fc h F 62 [Pt bi 3] (.tuple []) bi {b with AY:=b.AY++[Ci.zero]}:=by obtain⟨e,d,c,tt,G,w,hc,rfl⟩:=w;have XG:=g.rm.AY;obtain⟨fs,JF,Rv⟩:=hc;obtain⟨u,r2,hu⟩:=f63 (h:=h) (id:=bi) (o:=3) (l:=fs) ⟨c,w.pH,Rv⟩ (by rw[<-JF,Aw] at XG;omega);exact⟨_,_,r2,⟨e,d,u,tt,G,w.PH (u:=u) (l:=b.AY++[Ci.zero]),⟨_,by rw[BW,JF];rfl,hu⟩,rfl⟩,BL⟩
def yN(w:PB h bi b F)(g:Gz b n o a):∃r,Fc h F 65 [Pt bi 3] r bi {b with AY:=Fz b.AY}:=by obtain⟨e,d,c,tt,G,w,hc,rfl⟩:=w;have XG:=g.rm.AY;obtain⟨fs,JF,Rv⟩:=hc;obtain⟨u,r2,hu⟩:=f65 (h:=h) (id:=bi) (o:=3) (l:=fs) ⟨c,w.pH,Rv⟩ (by rw[<-JF,Aw] at XG;omega);exact⟨_,_,_,r2,⟨e,d,u,tt,G,w.PH (u:=u) (l:=Fz b.AY),⟨_,by rw[i6,JF],hu⟩,rfl⟩,BL⟩
def jQ(w:PB h bi b F)(g:Gz b n o a){v:Aa}{ws:List Aj}(hw:HP ws v)(hn:ws.length<=1000000000):∃r,Fc h F 66 [Pt bi 2,v] r bi {b with AA:=Dd Da (Bf ws) b.AA}:=by obtain⟨d,e,c,tt,G,w,hc,rfl⟩:=w;have ho:=g.rm.AA;obtain⟨u,r2,hu⟩:=f66 w.sO Ac hw hn;exact⟨_,_,_,r2,⟨d,u,c,tt,G,w.Mo hu,hc,rfl⟩,BL⟩
def LL(w:PB h bi b F)(g:Gz b n o a)(s:Aj):∃r,Fc h F 119 [Pt bi 2,.str s] r bi {b with AA:=Dd (EG s) Da b.AA}:=by obtain⟨d,e,c,tt,G,w,hc,rfl⟩:=w;have ho:=g.rm.AA;obtain⟨u,r2,hu⟩:=ŷ w.sO Ac s;exact⟨_,_,_,r2,⟨d,u,c,tt,G,w.Mo hu,hc,rfl⟩,BL⟩
def oJ(w:PB h bi b F)(g:Gz b n o a)(x:Int):∃r,Fc h F 156 [Pt bi 2,I x] r bi {b with AA:=Cv x b.AA}:=by obtain⟨d,e,c,tt,G,w,hc,rfl⟩:=w;have ho:=g.rm.AA;obtain⟨u,r2,hu⟩:=ql w.sO Ac x;exact⟨_,_,_,r2,⟨d,u,c,tt,G,w.Mo hu,hc,rfl⟩,BL⟩
def aAA(w:PB h bi b F)(g:Gz b n o a)(i:Item):Fc h F 104 [Pt bi 2,.agg i.row] (.tuple []) bi {b with AA:=b.AA++[i]}:=by obtain⟨d,e,c,tt,G,w,hc,rfl⟩:=w;have ho:=g.rm.AA;obtain⟨u,r2,hu⟩:=f95 w.sO Ac i;exact⟨_,_,r2,⟨d,u,c,tt,G,w.Mo hu,hc,rfl⟩,BL⟩
def PB.sA(w:PB h bi b F):bp h (Pt bi 2) b.AA:=by obtain⟨e,d,c,tt,G,w,hc,rfl⟩:=w;exact w.sA
def PB.LQ(w:PB h bi b F):∃x,Bd h none (Pt bi 0)=some (Pt x 0):=by obtain⟨d,e,c,tt,G,w,hc,rfl⟩:=w;exact⟨d,w.l0⟩
def PB.B4(w:PB h bi b F):Bd h none (Pt bi 1)=some (I b.Cl)/\Bd h none (Pt bi 4)=some (I b.mode)/\Bd h none (Pt bi 5)=some (I b.Qu)/\Bd h none (Pt bi 7)=some (I b.head)/\Bd h none (Pt bi 8)=some (I b.IG)/\Bd h none (Pt bi 14)=some (.bool b.fs)/\Bd h none (Pt bi 18)=some (I b.sw)/\Bd h none (Pt bi 19)=some (.bool b.stop):=by obtain⟨e,d,c,tt,G,w,hc,rfl⟩:=w;exact⟨w.ld 1,w.ld 4,w.ld 5,w.ld 7,w.ld 8,w.ld 14,w.ld 18,w.ld 19⟩
def PB.ltm(w:PB h bi b F):∃v,Bd h none (Pt bi 6)=some v/\SE b.tm v:=by obtain⟨e,d,c,tt,G,w,hc,rfl⟩:=w;exact⟨tt,w.l6,w.t⟩
def SP(w:PB h bi b F)(g:Gz b n o a)(s:Int){v:Aa}{ws:List Aj}(hv:HP ws v)(hw:ws.length<=1000000000):B2 cx 118 [Pt bi 2,I s,v] h (.bool (b.OM s (Bf ws))) h:=
 aDi w.sA (by have:=g.rm.AA;omega) s hv hw
def oK(w:PB h bi b F)(g:Gz b n o a)(s x:Int):B2 cx 214 [Pt bi 2,I s,I x] h (.bool (b.OM s (BK x))) h:=
 aDj w.sA (by have:=g.rm.AA;omega) s x
def aAB(w:PB h bi b F)(g:Gz b n o a)(s:Aj):B2 cx 132 [Pt bi 2,.str s] h (I (AW (Bf [s]) b.AA)) h:=
 zk w.sA (by have:=g.rm.AA;omega) s
def S_(w:PB h bi b F)(i:Int):B2 cx 9 [Pt bi 2,I i] h (.agg (DO b.AA i).row) h:=Sx w.sA i
def Yj(w:PB h bi b F):B2 cx 8 [Pt bi 2] h (I (b.AA.length:Int)) h:=Sw w.sA
def oL(w:PB h bi b F)(g:Gz b n o a):B2 cx 125 [Pt bi 0] h (.agg (Fs b.AA).row) h:=by obtain⟨e,d,c,tt,G,w,hc,rfl⟩:=w;exact ſ w g.rm
def Wr(h:Ai)(F:Nat->Prop)(bi k:Nat)(v:Aa)(b':BS):Prop:=CK h 1 (Pt bi k) v=some (put h bi k v)/\PB (put h bi k v) bi b' F/\EH h F (put h bi k v) F
def FB(w:PB h bi b F)(v:Int):Wr h F bi 4 (I v) {b with mode:=v}:=by obtain⟨e,d,c,tt,G,w,hc,rfl⟩:=w;exact⟨w.st (k:=4) rfl rfl,⟨e,d,c,tt,G,w.put rfl rfl w.o w.t,hc,rfl⟩,BL⟩
def ua(w:PB h bi b F)(v:Int):Wr h F bi 7 (I v) {b with head:=v}:=by obtain⟨e,d,c,tt,G,w,hc,rfl⟩:=w;exact⟨w.st (k:=7) rfl rfl,⟨e,d,c,tt,G,w.put rfl rfl w.o w.t,hc,rfl⟩,BL⟩
def jR(w:PB h bi b F)(v:Int):Wr h F bi 8 (I v) {b with IG:=v}:=by obtain⟨e,d,c,tt,G,w,hc,rfl⟩:=w;exact⟨w.st (k:=8) rfl rfl,⟨e,d,c,tt,G,w.put rfl rfl w.o w.t,hc,rfl⟩,BL⟩
def Kv(w:PB h bi b F)(v:Bool):Wr h F bi 14 (.bool v) {b with fs:=v}:=by obtain⟨e,d,c,tt,G,w,hc,rfl⟩:=w;exact⟨w.st (k:=14) rfl rfl,⟨e,d,c,tt,G,w.put rfl rfl w.o w.t,hc,rfl⟩,BL⟩
def ub(w:PB h bi b F)(v:Bool):Wr h F bi 17 (.bool v) {b with skip:=v}:=by obtain⟨e,d,c,tt,G,w,hc,rfl⟩:=w;exact⟨w.st (k:=17) rfl rfl,⟨e,d,c,tt,G,w.put rfl rfl w.o w.t,hc,rfl⟩,BL⟩
def aI2(w:PB h bi b F)(v:Int):Wr h F bi 18 (I v) {b with sw:=v}:=by obtain⟨e,d,c,tt,G,w,hc,rfl⟩:=w;exact⟨w.st (k:=18) rfl rfl,⟨e,d,c,tt,G,w.put rfl rfl w.o w.t,hc,rfl⟩,BL⟩
def aAC(w:PB h bi b F){v:Aa}{l:List Int}(hv:SE l v):Wr h F bi 6 v {b with tm:=l}:=by obtain⟨e,d,c,tt,G,w,hc,rfl⟩:=w;exact⟨w.st (k:=6) (v0:=tt) rfl hv.1.cells,⟨e,d,c,v,G,w.sr hv,hc,rfl⟩,BL⟩
end
def NH(c:UInt8):Bool:=decide ((9<=c.toNat/\c.toNat<=13)\/c.toNat=32)
def wf:Aj->Aj->List Aj
 |cur,[]=>if cur=[] then[] else[cur]
 |cur,c::r=>if NH c then(if cur=[] then wf [] r else cur::wf [] r) else wf (cur++[c]) r
def jS:Bool->Aj->Nat
 |_,[]=>0
 |w,c::r=>(if w&& !NH c then 1 else 0)+jS (NH c) r
def yO(b:Bool):Int:=if b then 1 else 0
def TQ:∀{s cur:Aj},(wf cur s).length=(if cur=[] then 0 else 1)+jS (decide (cur=[])) s
 |[],cur=>by unfold wf jS;split<;>simp_all
 |c::r,cur=>by
  unfold wf jS;by_cases hc:NH c=true
  .by_cases h0:cur=[];.simp[hc,h0,TQ (s:=r) (cur:=[])]
   .simp[hc,h0,TQ (s:=r) (cur:=[])];omega
  .have OZ:NH c=false:=by simpa using hc
   by_cases h0:cur=[];.simp[OZ,h0,TQ (s:=r) (cur:=[c])]
   .simp[OZ,h0,TQ (s:=r) (cur:=cur++[c])]
def yP:∀{s cur:Aj},(wf cur s).length<=s.length+1
 |[],cur=>by unfold wf;split<;>simp
 |c::r,cur=>by
  unfold wf;have h1:=yP (s:=r) (cur:=[]);have h2:=yP (s:=r) (cur:=cur++[c]);split;.split<;>simp only[AG]<;>omega
  .simp only[AG];omega
def yQ{c:UInt8}(k:Option Nat)(hk:k=none){h:Ai}:∃v,Az (.TW 256 1) [.Cu GG,.int .u8 (c.toNat:Int)]=some v/\Bd h k v=some (.int .u8 (yO (NH c))):=by
 subst hk;have key:∀n:Nat,n<256->GG[n]?=some (.int .u8 (yO (decide ((9<=n/\n<=13)\/n=32)))):=by intro n hn;have h1:∀n,n<256->Nn[n]?=some (yO (decide ((9<=n/\n<=13)\/n=32))):=Eg;rw[GG,CA,h1 n hn];rfl
 have hc:=c.toNat_lt;have hi:LN (c.toNat:Int) 256=some c.toNat:=by unfold LN;rw[Ag Ac];rfl
 refine⟨.Cu (GG.drop (c.toNat*1)),by simp[Az,hi,VV],?_⟩;rw[Xb,Gq,Cn,GL,Bp,key _ hc];rfl
def aAD{s c:Nat}(hs:s<128)(hc:c<128):∃n:Nat,n<128/\Az (.int .or) [.int .u8 (s:Int),.int .u8 (c:Int)]=some (.int .u8 (n:Int)):=by
 have key:∀s:Nat,s<128->∀c:Nat,c<128->(match Az (.int .or) [.int .u8 (s:Int),.int .u8 (c:Int)] with|some (.int .u8 n)=>decide (0<=n/\n<128)|_=>false)=true:=Eg;have h1:=key s hs c hc;split at h1;.rename_i n hv;have:=Mi h1;exact⟨n.toNat,Ac,by rw[hv,HX this.1]⟩
 .cases h1
def aAE(w i:Bool):∃v,Az (.un .xor) [I (yO i)]=some v/\Az (.int .and) [I (yO w),v]=some (I (if w&& !i then 1 else 0)):=by cases w<;>cases i<;>exact⟨_,rfl,rfl⟩
def aAF(i:Bool):IntKind.i64.wrap (yO i)=yO i:=by cases i<;>rfl
def yR{U:Type}(l:List U)(x y:U)(r:List U){k:Nat}(hk:k=l.length):(l++y::r).take k++[x]++(l++y::r).drop (k+1)=l++x::r:=by subst hk;simp
def aEI(s:Aj)(hs:s.length<=1000000)(ha:∀c∈s,c.toNat<128)(h:Ai):B2 cx 269 [.str s] h (.sl 1 ((wf [] s).map B6)) (h++[.Dw]):=by
 have yl:AJ=140737488355328:=rfl;have O:=yP (s:=s) (cur:=[]);obtain⟨N,hNe⟩:∃N,N=(wf [] s).length:=⟨_,rfl⟩;rw[Ae,iO,aDc];refine E2 (i:=0) (λz:Nat×Bool×Nat×Nat=>[I (z.1:Int),I (yO z.2.1),.int .u8 (z.2.2.1:Int),I (z.2.2.2:Int)]) (λz h1=>h1=h/\z.2.2.2<=s.length/\z.2.2.1<128/\z.1+jS z.2.1 (s.drop z.2.2.2)=jS true s) (λz=>s.length-z.2.2.2) (λz h1=>h1=h/\z.2.2.1<128/\z.1=N) (0,true,0,0) rfl ⟨rfl,Bc _,AM,Ax⟩ ?_ ?_
 .rintro⟨n,w,bits,i⟩ h1 ⟨rfl,hi,hb,hn⟩;simp only at hi hb hn;rcases Bl i s.length with hlt|GS
  .obtain⟨bits',OS,y⟩:=aAD hb (ha _ (Bb hlt));obtain⟨v,J,H⟩:=yQ (c:=s[i]) none rfl (h:=h1);obtain⟨v2,p,d⟩:=aAE w (NH s[i]);have M:jS true s<=s.length+1:=by have:=TQ (s:=s) (cur:=[]);simp at this;omega
   rw[Ay hlt,jS] at hn;have u:=Vh (a:=(n:Int)) (b:=if w&& !NH s[i] then 1 else 0) (by split<;>omega) (by split<;>omega);have t:((n:Int)+if(w&& !NH s[i])=true then 1 else 0)=((n+if(w&& !NH s[i])=true then 1 else 0:Nat):Int):=by split<;>simp
   simp only[abS,(Ac:(i:Int)<(s.length:Int)),Ia hlt,y,J,H,Vf,aAF,p,d,u,t,CE (Ac:i<9223372036854775807)];exact .next (_,NH s[i],bits',i+1) rfl ⟨rfl,hlt,OS,Gw⟩ Gw
  .simp only[abS,(Ac:¬(i:Int)<(s.length:Int))];refine .IE (n,w,bits,i) rfl ⟨rfl,hb,?_⟩;rw[AV GS,jS] at hn;have:=TQ (s:=s) (cur:=[]);simp at this;simp only;omega
 rintro⟨n,w,bits,i⟩ h1 ⟨rfl,hb,hn⟩;simp only at hb hn;subst hn;have y:TX h1 1 16 [S []] (I (n:Int)) (I (n:Int))=some (h1++[.cells (List.replicate n [S []]).flatten],.CT h1.length 0 n 1):=by simp only[TX];rw[Ag ⟨Ac,Ac,Ek,rfl⟩];simp
 have J:(List.replicate n [S []]).flatten=List.replicate n (S []):=by
  clear y hNe O;induction n with
  |zero=>rfl
  |succ n ih=>rw[Kx,CB,ih];rfl
 rw[J] at y;have H:¬(128:Int)<=(bits:Int):=Ac;simp only[abS,H];refine pP y ?_;refine E2 (i:=2) (λi:Nat=>[I (i:Int)]) (λi h2=>h2=h1++[.cells (List.replicate n (S []))]/\i<=s.length/\wf [] s=wf [] (s.drop i)) (λi=>s.length-i) (λi h2=>h2=h1++[.cells (List.replicate n (S []))]/\i<=s.length/\wf [] s=wf [] (s.drop i)/\∀hi:i<s.length,NH s[i]=false) 0 rfl ⟨rfl,Bc _,rfl⟩ ?_ ?_
 .rintro i h2 ⟨rfl,hi,hw⟩;rcases Bl i s.length with hlt|GS
  .obtain⟨v,p,d⟩:=yQ (c:=s[i]) none rfl (h:=h1++[.cells (List.replicate n (S []))]);cases hsp:NH s[i] with
   |true=>rw[hsp] at d;simp only[abS,(Ac:(i:Int)<(s.length:Int)),Ia hlt,p,d,yO,↓reduceIte,(AM:(1:Int)≠0),Cj,CE (Ac:i<9223372036854775807)];rw[Ay hlt,wf,hsp] at hw;exact .next (i+1) rfl ⟨rfl,hlt,by simpa using hw⟩ Ac
   |false=>rw[hsp] at d;simp only[abS,(Ac:(i:Int)<(s.length:Int)),Ia hlt,p,d,yO,Ch,↓reduceIte,Cj];exact .IE i rfl ⟨rfl,hi,hw,λ_=>hsp⟩
  .simp only[abS,(Ac:¬(i:Int)<(s.length:Int))];exact .IE i rfl ⟨rfl,hi,hw,λh=>absurd h Ac⟩
 rintro i0 h2 ⟨rfl,þ,C,fw⟩;simp only[B9];refine E2 (i:=4) (λz:List Aj×Nat×Nat=>[I (z.1.length:Int),I (z.2.1:Int),I (z.2.2:Int)]) (λz h2=>h2=h1++[.cells (z.1.map Aa.str++List.replicate (n-z.1.length) (S []))]/\z.2.1<=z.2.2/\z.2.2<=s.length/\z.1++wf ((s.take z.2.2).drop z.2.1) (s.drop z.2.2)=wf [] s/\(z.2.1=z.2.2->∀hi:z.2.2<s.length,NH s[z.2.2]=false)) (λz=>s.length-z.2.2)
  (λz h2=>h2=h1++[.cells (z.1.map Aa.str++List.replicate (n-z.1.length) (S []))]/\z.2.1<=s.length/\z.1++wf (s.drop z.2.1) []=wf [] s) ([],i0,i0) rfl ⟨Ax,Ab _,þ,by simp[C,aGo],λ_=>fw⟩ ?_ ?_
 .rintro⟨dn,f,i⟩ h2 ⟨rfl,hf,hi,hw,hz⟩;simp only at hf hi hw hz;have fy:dn.length<=n:=by rw[hNe,<-hw,Ao];omega
  rcases Bl i s.length with hlt|GS
  .obtain⟨v,p,d⟩:=yQ (c:=s[i]) none rfl (h:=h1++[.cells (dn.map Aa.str++List.replicate (n-dn.length) (S []))]);rw[Ay hlt] at hw;cases hsp:NH s[i] with
   |false=>
    rw[hsp] at d;simp only[abS,(Ac:(i:Int)<(s.length:Int)),Ia hlt,p,d,yO,Ch,↓reduceIte,CE (Ac:i<9223372036854775807)];rw[wf,hsp] at hw;refine .next (dn,f,i+1) rfl ⟨rfl,Gw,hlt,?_,λe=>by simp only at e;omega⟩ Gw
    simp only
    rw[nh hf hlt];simpa using hw
   |true=>
    rw[hsp] at d;have aOB:f<i:=by
     rcases Bl f i with h|h
     .exact h
     .have:=hz Ac hlt;rw[hsp] at this;cases this
    have aI3:(s.take i).drop f≠[]:=by intro e;have:=Cm List.length e;simp at this;omega
    rw[wf,hsp] at hw;simp only[BE,aI3,DR] at hw;have m:dn.length<n:=by rw[hNe,<-hw];simp
    have u:Az (.FG 1) [.CT h1.length 0 n 1,I (dn.length:Int)]=some (Pt h1.length dn.length):=by have:=Ge (id:=h1.length) (z:=1) (n:=n) (k:= .i64) m;rwa [GL] at this
    have hcl:(dn.map Aa.str++List.replicate (n-dn.length) (S [])).length=n:=Ek;have t:CK (h1++[.cells (dn.map Aa.str++List.replicate (n-dn.length) (S []))]) 1 (Pt h1.length dn.length) (.str ((s.take i).drop f))=some (h1++[.cells ((dn++[(s.take i).drop f]).map Aa.str++List.replicate (n-(dn++[(s.take i).drop f]).length) (S []))]):=by have F:(h1++[EN.cells (dn.map Aa.str++List.replicate (n-dn.length) (S []))])[h1.length]?=some (.cells (dn.map Aa.str++List.replicate (n-dn.length) (S []))):=Ax;simp only[CK,F,P7,AS];rw[Ag ⟨trivial,by rw[hcl];omega⟩,B0 _ _ (Ab _),Eb];have E:n-dn.length=(n-(dn.length+1))+1:=Ac;have D:(dn.map Aa.str).length=dn.length:=Aw ..;simp only[j7,BW,A9,Dc,Ao,AS];rw[E,Kx,yR _ _ _ _ D.symm];simp
    simp only[abS,(Ac:(i:Int)<(s.length:Int)),Ia hlt,p,d,yO,↓reduceIte,(AM:¬(1:Int)=0),rP (z:=0) (k:= .i64) (l:= .i64) (Ac:f<=i) hi,u,t,CE (Ac:dn.length<9223372036854775807),CE (Ac:i<9223372036854775807)];refine E2 (i:=6) (λj:Nat=>[I (j:Int)]) (λj h2=>h2=h1++[.cells ((dn++[(s.take i).drop f]).map Aa.str++List.replicate (n-(dn++[(s.take i).drop f]).length) (S []))]/\i<j/\j<=s.length/\wf [] (s.drop (i+1))=wf [] (s.drop j)) (λj=>s.length-j) (λj h2=>h2=h1++[.cells ((dn++[(s.take i).drop f]).map Aa.str++List.replicate (n-(dn++[(s.take i).drop f]).length) (S []))]/\i<j/\j<=s.length/\wf [] (s.drop (i+1))=wf [] (s.drop j)/\∀hj:j<s.length,NH s[j]=false) (i+1) rfl ⟨rfl,Ac,hlt,rfl⟩ ?_ ?_
    .rintro j h2 ⟨rfl,o,hj,qS⟩;rcases Bl j s.length with pD|L
     .obtain⟨v,K,A⟩:=yQ (c:=s[j]) none rfl (h:=h1++[.cells ((dn++[(s.take i).drop f]).map Aa.str++List.replicate (n-(dn++[(s.take i).drop f]).length) (S []))]);cases g:NH s[j] with
      |true=>rw[g] at A;simp only[abS,(Ac:(j:Int)<(s.length:Int)),Ia pD,K,A,yO,↓reduceIte,(AM:(1:Int)≠0),Cj,CE (Ac:j<9223372036854775807)];rw[Ay pD,wf,g] at qS;exact .next (j+1) rfl ⟨rfl,Ac,pD,by simpa using qS⟩ Ac
      |false=>rw[g] at A;simp only[abS,(Ac:(j:Int)<(s.length:Int)),Ia pD,K,A,yO,Ch,↓reduceIte,Cj];exact .IE j rfl ⟨rfl,o,hj,qS,λ_=>g⟩
     .simp only[abS,(Ac:¬(j:Int)<(s.length:Int))];exact .IE j rfl ⟨rfl,o,hj,qS,λh=>absurd h Ac⟩
    .rintro j h2 ⟨rfl,o,hj,qS,B⟩;simp only[B9,↓reduceIte];refine .next (dn++[(s.take i).drop f],j,j) Ax ⟨rfl,Ab _,hj,?_,λ_=>B⟩ Gw
     simp only[aGo];rw[<-qS,AT];exact hw
  .simp only[abS,(Ac:¬(i:Int)<(s.length:Int))];have hie:i=s.length:=Ac;refine .IE (dn,f,i) rfl ⟨rfl,Gw,?_⟩;simp only
   rw[AV GS,hie,BN] at hw;exact hw
 .rintro⟨dn,f,i⟩ h2 ⟨rfl,hf,hw⟩;simp only at hf hw;have fz:∀l:List Aj,l=wf [] s->KK (h1++[.cells (l.map Aa.str)]) (.CT h1.length 0 n 1)=some (h1++[.Dw],.sl 1 ((wf [] s).map B6)):=by
   rintro l rfl;have hr:∀r∈(wf [] s).map B6,r.length=1:=λr hr=>by obtain⟨w,_,rfl⟩:=A4.1 hr;rfl
   have P:((wf [] s).map B6).flatten=(wf [] s).map Aa.str:=by
    generalize wf [] s=q;induction q with
    |nil=>rfl
    |cons x q ih=>simp[B6,ih]
   have:=Nt (h:=h1++[.cells ((wf [] s).map Aa.str)]) (id:=h1.length) hr (by rw[P];simp);rw[Aw,<-hNe] at this;rw[this,B0 _ _ (Ab _),Eb];rfl
  rcases Bl f s.length with hlt|GS
  .have hne:s.drop f≠[]:=by intro e;have:=Cm List.length e;simp at this;omega
   rw[wf,Af hne] at hw;have m:n=dn.length+1:=by rw[hNe,<-hw];simp
   have u:Az (.FG 1) [.CT h1.length 0 n 1,I (dn.length:Int)]=some (Pt h1.length dn.length):=by have:=Ge (id:=h1.length) (z:=1) (n:=n) (k:= .i64) (Ac:dn.length<n);rwa [GL] at this
   have t:CK (h1++[.cells (dn.map Aa.str++List.replicate (n-dn.length) (S []))]) 1 (Pt h1.length dn.length) (.str (s.drop f))=some (h1++[.cells ((dn++[s.drop f]).map Aa.str)]):=by have F:(h1++[EN.cells (dn.map Aa.str++List.replicate (n-dn.length) (S []))])[h1.length]?=some (.cells (dn.map Aa.str++List.replicate (n-dn.length) (S []))):=Ax;have E:n-dn.length=1:=Ac;have D:(dn.map Aa.str).length=dn.length:=Aw ..;simp only[CK,F,P7,AS];rw[Ag ⟨trivial,Ek⟩,B0 _ _ (Ab _),Eb,E,show List.replicate 1 (S [])=S []::[] from rfl,yR _ _ _ _ D.symm];simp
   simp only[abS,(Ac:(f:Int)<(s.length:Int)),bz (z:=0) (k:= .i64) (Ac:f<=s.length),u,t,fz _ hw]
  .rw[AV GS,wf] at hw;simp only[BE,Bs] at hw;have m:n-dn.length=0:=by rw[hNe,<-hw];omega
   have G:=fz _ hw;rw[m,List.replicate_zero,Bs];simp only[abS,(Ac:¬(f:Int)<(s.length:Int)),G]
section
variable{h h':Ai}{bi:Nat}{b b':BS}{F:Nat->Prop}{n o a:Nat}{t:DJ}{av:Aa}
def aEJ(lo hi r:Int)(h:Ai):B2 cx 271 [.int .i32 r,.Cu [.int .i32 lo],.Cu [.int .i32 hi]] h (.bool (decide (lo<=r/\r<=hi))) h:=by rw[Ae,VP];simp only[B9];refine⟨λh1=>by simp[h1],λh1=>by simp[h1]⟩
def Uy(p:Int×Int):List Aa:=[.func (.func 271) [] [.Cu [.int .i32 p.1],.Cu [.int .i32 p.2]]]
def aEK{L:List (Int×Int)}(g:L.length<=1000)(r:Int)(h:Ai):B2 cx 270 [.int .i32 r,.Cu [.sl 1 (L.map Uy)]] h (.bool (L.any λp=>decide (p.1<=r/\r<=p.2))) h:=by
 have hv:Bz 1 (L.map Uy) (.sl 1 (L.map Uy)):= .mk;have e:=Bz.GO hv;rw[Ae,iP];simp only[B9,e];refine BM (λn:Nat=>[ff,I (n:Int)]) (λn h1=>n<=L.length/\h1=h/\L.any (λp=>decide (p.1<=r/\r<=p.2))=(L.drop n).any λp=>decide (p.1<=r/\r<=p.2)) (λn=>L.length-n) 0 rfl ⟨Bc _,rfl,rfl⟩ ?_;rintro n h1 ⟨hn,rfl,ha⟩;rcases Bl n L.length with hlt|GS
 .have c:=Bz.DB (k:= .i64) hv hlt;have f:∀x y:Int,Cc (.func (.func 271) [] [.Cu [.int .i32 x],.Cu [.int .i32 y]]) [.int .i32 r]=some (271,[.int .i32 r,.Cu [.int .i32 x],.Cu [.int .i32 y]]):=λ_ _=>rfl;have d:=aEJ L[n].1 L[n].2 r h1;rw[Ay hlt,Rt] at ha;rw[Uy] at c;simp only[abS,(Ac:(n:Int)<(L.length:Int)),c,f,d.Ad,CE (Ac:n<9223372036854775807)];refine⟨λh2=>?_,λh2=>?_⟩;.rw[ha];simp[h2]
  .rw[Ah h2,I5] at ha;exact Br.next (n+1) rfl ⟨hlt,rfl,ha⟩ Ac
 .rw[AV GS] at ha;simp only[abS,(Ac:¬(n:Int)<(L.length:Int)),ha,o8]
def aI4(r:Int):Nr cx 145 [.int .i32 r] (.bool (decide (gm r))):=by
 have d:∀(lo hi:Int) (h:Ai),B2 cx 231 [.int .i32 lo,.int .i32 hi] h (.func (.func 271) [] [.Cu [.int .i32 lo],.Cu [.int .i32 hi]]) h:=λlo hi h=>by rw[Ae,Ss];simp only[B9]
 have g:∀(v:Aa) (h:Ai),v.cells=[v]->B2 cx 230 [v] h (.func (.func 270) [] [.Cu [v]]) h:=λv h hv=>by rw[Ae,VK];simp only[B9,hv]
 have e:=aEK (L:=[(9,10),(12,13),(32,32)]) AM r [];have c:Az (.DX 1) [.func (.func 271) [] [.Cu [.int .i32 9],.Cu [.int .i32 10]],.func (.func 271) [] [.Cu [.int .i32 12],.Cu [.int .i32 13]],.func (.func 271) [] [.Cu [.int .i32 32],.Cu [.int .i32 32]]]=some (.sl 1 ([((9:Int),(10:Int)),(12,13),(32,32)].map Uy)):=rfl;have f:∀v:Aa,Cc (.func (.func 270) [] [v]) [.int .i32 r]=some (270,[.int .i32 r,v]):=λ_=>rfl;have r2:=g (.sl 1 ([((9:Int),(10:Int)),(12,13),(32,32)].map Uy)) [] rfl;have e0:decide (gm r)=([((9:Int),(10:Int)),(12,13),(32,32)].any λp=>decide (p.1<=r/\r<=p.2)):=by
  have c:gm r↔((9<=r/\r<=10)\/(12<=r/\r<=13)\/(32<=r/\r<=32)):=by unfold gm;omega
  simp only[Rt,o8,K4,<-Bool.decide_or,C7];exact c
 rw[e0,R6,Vu];simp only[B9,(d 9 10 []).Ad,(d 12 13 []).Ad,(d 32 32 []).Ad,c,r2.Ad,f,e.Ad]
structure Kf(l:Aj)(ws:List Aj):Prop where
 len:l.length<=1000000
 asc:∀c∈l,c.toNat<128
 wf:wf [] l=ws
def MK{l:Aj}{ws:List Aj}(h:(decide (l.length<=1000000)&&l.all (λc=>decide (c.toNat<128))&&decide (wf [] l=ws))=true):Kf l ws:=by simp only[A7,Co,DK] at h;exact⟨h.1.1,h.1.2,h.2⟩
def Kf.few{l:Aj}{ws:List Aj}(w:Kf l ws):ws.length<=1000001:=by have:=yP (s:=l) (cur:=[]);have:=w.len;rw[<-w.wf];omega
def uc{l:Aj}{ws:List Aj}(w:Kf l ws)(h:Ai):B2 cx 238 [.str l] h (.sl 1 (ws.map B6)) (h++[.Dw]):=by have c:=aEI l w.len w.asc h;rw[w.wf] at c;rw[Ae,gY];simp only[B9,c.Ad]
def uP{l:Aj}{ws:List Aj}(w:Kf l ws)(s:Aj):Nr cx 155 [.str s,.str l] (.bool (decide (s∈ws))):=by have c:B2 cx 238 _ [] _ [.Dw]:=uc w [];have r2:=zj (CO (ws:=ws)) (by have:=w.few;omega) s [EN.Dw];rw[R6,Vx];simp only[B9,c.Ad,r2.Ad]
def EX{l:Aj}{ws:List Aj}(w:Kf l ws)(t:DJ)(av:Aa)(h:Ai):B2 cx 77 [.agg (B1 t av),.str l] h (.bool (decide (t.st ws))) h:=by
 rw[Ae,tS];simp only[B9,(uP w t.name).Cb rfl rfl];refine⟨λh1=>?_,λh1=>?_⟩;.congr 2;unfold DJ.st;simp[h1]
 .unfold DJ.st;simp[h1]
def Yk{l:Aj}{ws:List Aj}(w:Kf l ws)(t:DJ)(av:Aa)(h:Ai):B2 cx 80 [.agg (B1 t av),.str l] h (.bool (decide (t.en ws))) h:=by
 rw[Ae,tU];simp only[B9,(uP w t.name).Cb rfl rfl];refine⟨λh1=>?_,λh1=>?_⟩;.congr 2;unfold DJ.en;simp[h1]
 .unfold DJ.en;simp[h1]
def Yl{l:Aj}{ws:List Aj}(w:Kf l ws)(t:DJ)(av:Aa)(h:Ai):B2 cx 76 [.agg (B1 t av),.str l] h (.bool (decide (t.kL ws))) h:=by
 rw[Ae,tR];simp only[B9,(uP w t.name).Cb rfl rfl];refine⟨λh1=>?_,λh1=>?_⟩;.congr 2;unfold DJ.kL;simp[h1]
 .unfold DJ.kL;simp[h1]
def Ro(t:DJ)(av:Aa)(h:Ai):B2 cx 70 [.agg (B1 t av)] h (.bool (decide t.He)) h:=by
 rw[Ae,tN];simp only[B9,(aI4 t.r).Cb rfl rfl];refine⟨λh1=>?_,λh1=>?_⟩;.congr 2;unfold DJ.He;simp[h1]
 .unfold DJ.He;simp[h1]
def Jf(w:PB h bi b F)(t:DJ)(av:Aa):B2 cx 68 [Pt bi 0,.agg (B1 t av)] h (.bool (decide t.ok)) h:=by
 obtain⟨x,l0⟩:=w.LQ;rw[Ae,tL];simp only[abS,l0];refine⟨λh1=>?_,λh1=>?_⟩;.congr 2;unfold DJ.ok;simp[h1]
 .unfold DJ.ok;simp[h1]
def ud(nm:Aj)(h:Ai):B2 cx 78 [.str nm] h (.agg (B1 (Ll nm) .slnil)) h:=by rw[Ae,tT];simp only[abS,Nat.reduceLeDiff,↓reduceIte,Bj,Ll]
def uQ(w:PB h bi b F)(m:Int):Fc h F 72 [Pt bi 0,I m] tt bi (b.again m).1:=by obtain⟨d,w1,c⟩:=FB w m;refine⟨_,_,?_,w1,c⟩;rw[Ae,dB];simp only[B9,d]
def Rp(w:PB h bi b F)(g:Gz b n o a):B2 cx 87 [Pt bi 0] h (.bool (decide b.Vj)) h:=by rw[Ae,tZ];simp only[B9,(aAB w g A5).Ad];rfl
def uR(w:PB h bi b F)(g:Gz b (n+4) o a)(ht:t.Sm)(hv:A6 t.As av):Fc h F 79 [Pt bi 0,.agg (B1 t av)] (.tuple []) bi (b.Js t):=by obtain⟨h1,j,f,w1,d⟩:=EW w g ht hv;obtain⟨h2,i,r2,e,c⟩:=ON w1 (g.Cz ht);refine⟨h2,i,?_,e,d.trans c⟩;rw[Ae,dD];simp only[B9,f.Ad,r2.Ad]
end
def jT:Kf aQR eHB:=MK Eg
def Ym:Kf aQO tj:=MK Eg
def aF:Kf aQY uO:=MK Eg
def ue:Kf aRE eNo:=MK Eg
def Yn:Kf aQG SO:=MK Eg
def uS:Kf aRo J_:=MK Eg
def yS:Kf aQw aAw:=MK Eg
def uf:Kf aRs sHN:=MK Eg
def Qn:Kf aQe Ga:=MK Eg
def ug:Kf aQB sT1:=MK Eg
def uh:Kf [116,100,32,116,104] sTd:=MK Eg
def If:Kf aQg [aQg]:=MK Eg
def IZ:Kf aQj [aQj]:=MK Eg
def TR:Kf aQq [aQq]:=MK Eg
def Rq:Kf aQy [aQy]:=MK Eg
def J2:Kf aQn [aQn]:=MK Eg
def oM:Kf aQk [aQk]:=MK Eg
def SQ:Kf aQp [aQp]:=MK Eg
def yT:Kf aRS [aRS]:=MK Eg
def ui:Kf [116,114] [[116,114]]:=MK Eg
def FC:Kf aQh [aQh]:=MK Eg
section
variable{h h':Ai}{bi:Nat}{b b':BS}{F:Nat->Prop}{n o a:Nat}{t:DJ}{av:Aa}
def aEL(w:PB h bi b F)(g:Gz b (n+5) o a)(ht:t.Sm)(hv:A6 t.As av):Fc h F 25 [Pt bi 0,.agg (B1 t av)] (.bool (b.D7 t).2) bi (b.D7 t).1:=by
 have B4:=w.B4;unfold BS.D7;by_cases u:¬t.ok;.rw[Ag u];have c:=Jf w t av;rw[Ah u] at c;refine⟨_,_,?_,w,.refl⟩;rw[Ae,Oi];simp only[abS,↓reduceIte,c.Ad]
 rw[Af u];have c:=Jf w t av;rw[Ak (Ep.1 u)] at c;by_cases e:t.k=1;.rw[Ag e];refine⟨_,_,?_,w,.refl⟩;rw[Ae,Oi];simp only[abS,↓reduceIte,c.Ad,A3 e]
 rw[Af e];by_cases r:t.He;.rw[Ag r];have d:=Ro t av h;rw[Ak r] at d;refine⟨_,_,?_,w,.refl⟩;rw[Ae,Oi];simp only[abS,↓reduceIte,c.Ad,d.Ad,e]
 rw[Af r];have d:=Ro t av h;rw[Ah r] at d;by_cases q:t.kL eHB;.rw[Ag q];have f:=Yl jT t av h;rw[Ak q] at f;refine⟨_,_,?_,w,.refl⟩;rw[Ae,Oi];simp only[abS,↓reduceIte,c.Ad,d.Ad,f.Ad,e]
 rw[Af q];have f:=Yl jT t av h;rw[Ah q] at f;by_cases m:t.k=4;.rw[Ag m];obtain⟨h1,y,i,w1,j⟩:=LK (s:=t.data) w (g.dn (n':=n+1) Ac) (by have:=ht.data;omega) b.Cl;refine⟨_,_,?_,w1,j⟩;rw[Ae,Oi];simp only[abS,↓reduceIte,c.Ad,d.Ad,f.Ad,e,A3 m,i.Ad,B4]
 rw[Af m];by_cases p:t.st [aQg];.rw[Ag p];have l:=EX If t av h;rw[Ak p] at l;obtain⟨h1,y,i,w1,j⟩:=EW w (g.dn (n':=n+4) Ac) ht hv;obtain⟨z,x,v⟩:=FB w1 3;refine⟨_,_,?_,x,j.trans v⟩;rw[Ae,Oi];simp only[abS,↓reduceIte,c.Ad,d.Ad,f.Ad,l.Ad,e,m,i.Ad,z]
 rw[Af p];have l:=EX If t av h;rw[Ah p] at l;have rt:=ud aQg h;obtain⟨h1,y,i,w1,j⟩:=EW (t:=Ll aQg) (av:= .slnil) w (g.dn (n':=n+4) Ac) (I4 AM) (.inr ⟨rfl,rfl⟩);obtain⟨h2,A,r2,x,v⟩:=uQ w1 3;simp only[Ll] at rt i;refine⟨_,_,?_,x,j.trans v⟩;rw[Ae,Oi];simp only[abS,↓reduceIte,c.Ad,d.Ad,f.Ad,l.Ad,e,m,rt.Ad,i.Ad,r2.Ad,BS.again]
def aEM(w:PB h bi b F)(g:Gz b (n+1000) o a)(ht:t.Sm)(hv:A6 t.As av)(H:t.st [aQg]->Fc h F 30 [Pt bi 0,.agg (B1 t av)] ff bi (b.Hp t)):Fc h F 26 [Pt bi 0,.agg (B1 t av)] (.bool (b.D8 t).2) bi (b.D8 t).1:=by
 have B4:=w.B4;unfold BS.D8;by_cases x:¬t.ok;.rw[Ag x];have c:=Jf w t av;rw[Ah x] at c;refine⟨_,_,?_,w,.refl⟩;rw[Ae,M0];simp only[abS,↓reduceIte,c.Ad]
 rw[Af x];have c:=Jf w t av;rw[Ak (Ep.1 x)] at c;by_cases e:t.k=1;.rw[Ag e];refine⟨_,_,?_,w,.refl⟩;rw[Ae,M0];simp only[abS,↓reduceIte,c.Ad,A3 e]
 rw[Af e];by_cases v:t.He;.rw[Ag v];have d:=Ro t av h;rw[Ak v] at d;refine⟨_,_,?_,w,.refl⟩;rw[Ae,M0];simp only[abS,↓reduceIte,c.Ad,d.Ad,e]
 rw[Af v];have d:=Ro t av h;rw[Ah v] at d;by_cases u:t.kL eHB;.rw[Ag u];have i:=Yl jT t av h;rw[Ak u] at i;refine⟨_,_,?_,w,.refl⟩;rw[Ae,M0];simp only[abS,↓reduceIte,c.Ad,d.Ad,i.Ad,e]
 rw[Af u];have i:=Yl jT t av h;rw[Ah u] at i;by_cases m:t.k=4;.rw[Ag m];obtain⟨h1,D,f,w1,j⟩:=LK (s:=t.data) w (g.dn (n':=n+1) Ac) (by have:=ht.data;omega) 0;refine⟨_,_,?_,w1,j⟩;rw[Ae,M0];simp only[abS,↓reduceIte,c.Ad,d.Ad,i.Ad,e,A3 m,f.Ad]
 rw[Af m];by_cases q:t.st [aQg];.rw[Ag q];have l:=EX If t av h;rw[Ak q] at l;obtain⟨h1,D,f,w1,j⟩:=H q;refine⟨_,_,?_,w1,j⟩;rw[Ae,M0];simp only[abS,↓reduceIte,c.Ad,d.Ad,i.Ad,l.Ad,e,m,f.Ad]
 rw[Af q];have l:=EX If t av h;rw[Ah q] at l;by_cases r:t.st [aQj];.rw[Ag r];have p:=EX IZ t av h;rw[Ak r] at p;obtain⟨h1,D,f,w1,j⟩:=EW w (g.dn (n':=n+4) Ac) ht hv;obtain⟨C,B,z⟩:=ua w1 (b.Nz 1);obtain⟨E,A,y⟩:=FB B 4;refine⟨_,_,?_,A,(j.trans z).trans y⟩;rw[Ae,M0];simp only[abS,↓reduceIte,c.Ad,d.Ad,i.Ad,l.Ad,p.Ad,e,m,f.Ad,C,E]
 rw[Af r];have p:=EX IZ t av h;rw[Ah r] at p;have rt:=ud aQj h;obtain⟨h1,D,f,w1,j⟩:=EW (t:=Ll aQj) (av:= .slnil) w (g.dn (n':=n+4) Ac) (I4 AM) (.inr ⟨rfl,rfl⟩);obtain⟨C,B,z⟩:=ua w1 (b.Nz 1);obtain⟨I,J,G,A,y⟩:=uQ B 4;simp only[Ll] at rt f;refine⟨_,_,?_,A,(j.trans z).trans y⟩;rw[Ae,M0];simp only[abS,↓reduceIte,c.Ad,d.Ad,i.Ad,l.Ad,p.Ad,e,m,rt.Ad,f.Ad,C,G.Ad,BS.again]
def jU(w:PB h bi b F)(g:Gz b (n+1004) o a)(ht:t.Sm)(hv:A6 t.As av)(Z:t.st [aQg]->Fc h F 30 [Pt bi 0,.agg (B1 t av)] ff bi (b.Hp t)):Fc h F 27 [Pt bi 0,.agg (B1 t av)] (.bool (b.CJ t).2) bi (b.CJ t).1:=by
 have B4:=w.B4;unfold BS.CJ;by_cases L:¬t.ok;.rw[Ag L];have e:=Jf w t av;rw[Ah L] at e;refine⟨_,_,?_,w,.refl⟩;rw[Ae,FZ];simp only[abS,↓reduceIte,e.Ad]
 rw[Af L];have e:=Jf w t av;rw[Ak (Ep.1 L)] at e;by_cases i:t.k=1;.rw[Ag i];refine⟨_,_,?_,w,.refl⟩;rw[Ae,FZ];simp only[abS,↓reduceIte,e.Ad,A3 i]
 rw[Af i];by_cases K:t.st [aQj];.rw[Ag K];have f:=EX IZ t av h;rw[Ak K] at f;refine⟨_,_,?_,w,.refl⟩;rw[Ae,FZ];simp only[abS,↓reduceIte,e.Ad,f.Ad,i]
 rw[Af K];have f:=EX IZ t av h;rw[Ah K] at f;by_cases J:t.kL tj;.rw[Ag J];have j:=Yl Ym t av h;rw[Ak J] at j;refine⟨_,_,?_,w,.refl⟩;rw[Ae,FZ];simp only[abS,↓reduceIte,e.Ad,f.Ad,j.Ad,i]
 rw[Af J];have j:=Yl Ym t av h;rw[Ah J] at j;by_cases H:t.He;.rw[Ag H];have l:=Ro t av h;rw[Ak H] at l;obtain⟨h1,y,d,w1,c⟩:=Yg w (g.dn (n':=n+5) Ac) ht.r;refine⟨_,_,?_,w1,c⟩;rw[Ae,FZ];simp only[abS,↓reduceIte,e.Ad,f.Ad,j.Ad,l.Ad,i,d.Ad]
 rw[Af H];have l:=Ro t av h;rw[Ah H] at l;by_cases p:t.k=4;.rw[Ag p];obtain⟨h1,y,d,w1,c⟩:=LK (s:=t.data) w (g.dn (n':=n+1) Ac) (by have:=ht.data;omega) 0;refine⟨_,_,?_,w1,c⟩;rw[Ae,FZ];simp only[abS,↓reduceIte,e.Ad,f.Ad,j.Ad,l.Ad,i,A3 p,d.Ad]
 rw[Af p];by_cases C:t.st [aQg];.rw[Ag C];have m:=EX If t av h;rw[Ak C] at m;obtain⟨h1,y,d,w1,c⟩:=Z C;refine⟨_,_,?_,w1,c⟩;rw[Ae,FZ];simp only[abS,↓reduceIte,e.Ad,f.Ad,j.Ad,l.Ad,m.Ad,i,p,d.Ad]
 rw[Af C];have m:=EX If t av h;rw[Ah C] at m;by_cases G:t.st SO;.rw[Ag G];have q:=EX Yn t av h;rw[Ak G] at q;obtain⟨h1,y,d,w1,c⟩:=uR w (g.dn (n':=n+4) Ac) ht hv;refine⟨_,_,?_,w1,c⟩;rw[Ae,FZ];simp only[abS,↓reduceIte,e.Ad,f.Ad,j.Ad,l.Ad,m.Ad,q.Ad,i,p,d.Ad]
 rw[Af G];have q:=EX Yn t av h;rw[Ah G] at q;by_cases E:t.st [aQq];.rw[Ag E];have v:=EX TR t av h;rw[Ak E] at v;obtain⟨h1,y,d,w1,c⟩:=Yh w (g.dn (n':=n+4) Ac) ht hv 2;refine⟨_,_,?_,w1,c⟩;rw[Ae,FZ];simp only[abS,↓reduceIte,e.Ad,f.Ad,j.Ad,l.Ad,m.Ad,q.Ad,v.Ad,i,p,d.Ad]
 rw[Af E];have v:=EX TR t av h;rw[Ah E] at v;by_cases D:t.st J_;.rw[Ag D];have z:=EX uS t av h;rw[Ak D] at z;obtain⟨h1,y,d,w1,c⟩:=Yh w (g.dn (n':=n+4) Ac) ht hv 3;refine⟨_,_,?_,w1,c⟩;rw[Ae,FZ];simp only[abS,↓reduceIte,e.Ad,f.Ad,j.Ad,l.Ad,m.Ad,q.Ad,v.Ad,z.Ad,i,p,d.Ad]
 rw[Af D];have z:=EX uS t av h;rw[Ah D] at z;by_cases Il:t.st [aQy];.rw[Ag Il];have Y8:=EX Rq t av h;rw[Ak Il] at Y8;obtain⟨h1,y,d,w1,c⟩:=Yh w (g.dn (n':=n+4) Ac) ht hv 4;refine⟨_,_,?_,w1,c⟩;rw[Ae,FZ];simp only[abS,↓reduceIte,e.Ad,f.Ad,j.Ad,l.Ad,m.Ad,q.Ad,v.Ad,z.Ad,Y8.Ad,i,p,d.Ad]
 rw[Af Il];have Y8:=EX Rq t av h;rw[Ah Il] at Y8;by_cases MI:t.st [aQn];.rw[Ag MI];have gp:=EX J2 t av h;rw[Ak MI] at gp;obtain⟨h1,y,d,w1,c⟩:=EW w (g.dn (n':=n+4) Ac) ht hv;obtain⟨M,B,A⟩:=FB w1 5;refine⟨_,_,?_,B,c.trans A⟩;rw[Ae,FZ];simp only[abS,↓reduceIte,e.Ad,f.Ad,j.Ad,l.Ad,m.Ad,q.Ad,v.Ad,z.Ad,Y8.Ad,gp.Ad,i,p,d.Ad,M]
 rw[Af MI];have gp:=EX J2 t av h;rw[Ah MI] at gp;by_cases NB:t.en [aQj];.rw[Ag NB];have oN:=Yk IZ t av h;rw[Ak NB] at oN;obtain⟨h1,y,d,w1,c⟩:=ON w (g.dn (n':=n) Ac);obtain⟨M,B,A⟩:=FB w1 6;refine⟨_,_,?_,B,c.trans A⟩;rw[Ae,FZ];simp only[abS,↓reduceIte,e.Ad,f.Ad,j.Ad,l.Ad,m.Ad,q.Ad,v.Ad,z.Ad,Y8.Ad,gp.Ad,oN.Ad,i,p,d.Ad,M]
 rw[Af NB];have oN:=Yk IZ t av h;rw[Ah NB] at oN;by_cases NC:t.st [A5]
 .rw[Ag NC];have we:=EX FC t av h;rw[Ak NC] at we;obtain⟨h1,y,d,w1,c⟩:=EW w (g.dn (n':=n+4) Ac) ht hv;have g1:=(g.dn (n':=n+2+4) Ac).Cz ht;obtain⟨h2,F2,r2,B,A⟩:=t_ w1 g1;obtain⟨W,T,R⟩:=Kv B false;obtain⟨V,O,Q⟩:=FB T 18;obtain⟨tv,Y,N⟩:=O.ltm;have tb:(b.Cz t).tm.length<=900000000:=by have:=g1.rm.tm;omega
  obtain⟨u,X,hu⟩:=z_ N.1 Gw (put (put h2 bi 14 ff) bi 4 (I 18));have e6:=hu.1.mz 18 (by simp only;have:AJ=140737488355328:=rfl;omega);have em:Az (.DX 1) [I 18]=some (.sl 1 [CM 18]):=rfl;have Qs:SE ((b.Cz t).tm++[(18:Int)]) (.sl 1 (((b.Cz t).tm++[(18:Int)]).map CM)):= .lR;obtain⟨U,S,P⟩:=aAC O Qs;refine⟨_,_,?_,S,(((c.trans A).trans R).trans Q).trans P⟩;rw[Ae,FZ];simp only[abS,↓reduceIte,e.Ad,f.Ad,j.Ad,l.Ad,m.Ad,q.Ad,v.Ad,z.Ad,Y8.Ad,gp.Ad,oN.Ad,we.Ad,i,p,d.Ad,r2.Ad,W,V,Y,X.Ad,em,e6,U]
 rw[Af NC];have we:=EX FC t av h;rw[Ah NC] at we;by_cases QS:t.en [A5];.rw[Ag QS];have x:=Yk FC t av h;rw[Ak QS] at x;obtain⟨h1,y,d,w1,c⟩:=aAz w (g.dn (n':=n) Ac);refine⟨_,_,?_,w1,c⟩;rw[Ae,FZ];simp only[abS,↓reduceIte,e.Ad,f.Ad,j.Ad,l.Ad,m.Ad,q.Ad,v.Ad,z.Ad,Y8.Ad,gp.Ad,oN.Ad,we.Ad,x.Ad,i,p,d.Ad]
 rw[Af QS];have x:=Yk FC t av h;rw[Ah QS] at x;obtain⟨h1,y,d,w1,c⟩:=ON w (g.dn (n':=n) Ac);obtain⟨h2,F2,r2,B,A⟩:=uQ w1 6;refine⟨_,_,?_,B,c.trans A⟩;rw[Ae,FZ];simp only[abS,↓reduceIte,e.Ad,f.Ad,j.Ad,l.Ad,m.Ad,q.Ad,v.Ad,z.Ad,Y8.Ad,gp.Ad,oN.Ad,we.Ad,x.Ad,i,p,d.Ad,r2.Ad,BS.again]
def aEO(w:PB h bi b F)(g:Gz b (n+1004) o a)(ht:t.Sm)(hv:A6 t.As av)(C:t.st [aQg]->Fc h F 30 [Pt bi 0,.agg (B1 t av)] ff bi (b.Hp t)):Fc h F 28 [Pt bi 0,.agg (B1 t av)] (.bool (b.D9 t).2) bi (b.D9 t).1:=by
 have B4:=w.B4;unfold BS.D9;by_cases B:¬t.ok;.rw[Ag B];have c:=Jf w t av;rw[Ah B] at c;refine⟨_,_,?_,w,.refl⟩;rw[Ae,Lj];simp only[abS,↓reduceIte,c.Ad]
 rw[Af B];have c:=Jf w t av;rw[Ak (Ep.1 B)] at c;by_cases i:t.k=1;.rw[Ag i];refine⟨_,_,?_,w,.refl⟩;rw[Ae,Lj];simp only[abS,↓reduceIte,c.Ad,A3 i]
 rw[Af i];by_cases A:t.st sHN;.rw[Ag A];have f:=EX uf t av h;rw[Ak A] at f;refine⟨_,_,?_,w,.refl⟩;rw[Ae,Lj];simp only[abS,↓reduceIte,c.Ad,f.Ad,i]
 rw[Af A];have f:=EX uf t av h;rw[Ah A] at f;by_cases z:t.kL eNo;.rw[Ag z];have j:=Yl ue t av h;rw[Ak z] at j;refine⟨_,_,?_,w,.refl⟩;rw[Ae,Lj];simp only[abS,↓reduceIte,c.Ad,f.Ad,j.Ad,i]
 rw[Af z];have j:=Yl ue t av h;rw[Ah z] at j;by_cases s:t.st [aQg];.rw[Ag s];have l:=EX If t av h;rw[Ak s] at l;obtain⟨h1,u,e,w1,d⟩:=C s;refine⟨_,_,?_,w1,d⟩;rw[Ae,Lj];simp only[abS,↓reduceIte,c.Ad,f.Ad,j.Ad,l.Ad,i,e.Ad]
 rw[Af s];have l:=EX If t av h;rw[Ah s] at l;by_cases y:t.en [aQn];.rw[Ag y];have m:=Yk J2 t av h;rw[Ak y] at m;obtain⟨h1,u,e,w1,d⟩:=ON w (g.dn (n':=n) Ac);obtain⟨G,E,D⟩:=FB w1 4;refine⟨_,_,?_,E,d.trans D⟩;rw[Ae,Lj];simp only[abS,↓reduceIte,c.Ad,f.Ad,j.Ad,l.Ad,m.Ad,i,e.Ad,G]
 rw[Af y];have m:=Yk J2 t av h;rw[Ah y] at m;by_cases x:t.He;.rw[Ag x];have p:=Ro t av h;rw[Ak x] at p;obtain⟨h1,u,e,w1,d⟩:=jU w g ht hv C;refine⟨_,_,?_,w1,d⟩;rw[Ae,Lj];simp only[abS,↓reduceIte,c.Ad,f.Ad,j.Ad,l.Ad,m.Ad,p.Ad,i,e.Ad]
 rw[Af x];have p:=Ro t av h;rw[Ah x] at p;by_cases r:t.k=4;.rw[Ag r];obtain⟨h1,u,e,w1,d⟩:=jU w g ht hv C;refine⟨_,_,?_,w1,d⟩;rw[Ae,Lj];simp only[abS,↓reduceIte,c.Ad,f.Ad,j.Ad,l.Ad,m.Ad,p.Ad,i,A3 r,e.Ad]
 rw[Af r];by_cases v:t.st aAw;.rw[Ag v];have q:=EX yS t av h;rw[Ak v] at q;obtain⟨h1,u,e,w1,d⟩:=jU w g ht hv C;refine⟨_,_,?_,w1,d⟩;rw[Ae,Lj];simp only[abS,↓reduceIte,c.Ad,f.Ad,j.Ad,l.Ad,m.Ad,p.Ad,q.Ad,i,r,e.Ad]
 rw[Af v];have q:=EX yS t av h;rw[Ah v] at q;obtain⟨h1,u,e,w1,d⟩:=ON w (g.dn (n':=n) Ac);obtain⟨h2,H,r2,E,D⟩:=uQ w1 4;refine⟨_,_,?_,E,d.trans D⟩;rw[Ae,Lj];simp only[abS,↓reduceIte,c.Ad,f.Ad,j.Ad,l.Ad,m.Ad,p.Ad,q.Ad,i,r,e.Ad,r2.Ad,BS.again]
def uj(w:PB h bi b F)(ba:BA b)(rm:Cf b (n+4))(ht:t.Sm)(hv:A6 t.As av):Fc h F 47 [Pt bi 0,.agg (B1 t av)] (I (b.Nz 1)) bi (b.Cz t):=by obtain⟨d,f,c,tt,G,w,hc,rfl⟩:=w;obtain⟨h',o',e,r,w',x⟩:=di (m:=n) w ba rm Mb hv ht.As ht.name;exact⟨h',_,r,⟨d,o',c,tt,e,w',by unfold BS.Cz;rw[EA];exact hc,rfl⟩,x⟩
def uT(w:PB h bi b F)(ba:BA b)(rm:Cf b (n+4))(ht:t.Sm)(hv:A6 t.As av)(s:Int):Fc h F 53 [Pt bi 0,.agg (B1 t av),I s] (.tuple []) bi (b.Df t.name t.As s):=by obtain⟨d,f,c,tt,G,w,hc,rfl⟩:=w;obtain⟨h',o',e,r,w',x⟩:=aAe (m:=n) w ba rm Mb hv ht.As ht.name s;exact⟨h',_,r,⟨d,o',c,tt,e,w',by show Dn (b.DY t.name t.As 1).AY c;rw[EA];exact hc,rfl⟩,x⟩
def aAG(w:PB h bi b F)(rm:Cf b n):Fc h F 64 [Pt bi 2] (.agg b.sK.row) bi b.Hj:=by obtain⟨d,f,c,tt,G,w,hc,rfl⟩:=w;obtain⟨h',o',r,w',x⟩:=A_ w rm;exact⟨h',_,r,⟨d,o',c,tt,G,w',by have e:b.Hj.AY=b.AY:=(by unfold BS.Hj;split<;>rfl);rw[e];exact hc,rfl⟩,x⟩
def T_(w:PB h bi b F)(rm:Cf b n):Fc h F 62 [Pt bi 3] (.tuple []) bi {b with AY:=b.AY++[Ci.zero]}:=by obtain⟨e,d,c,tt,G,w,hc,rfl⟩:=w;have XG:=rm.AY;obtain⟨fs,JF,Rv⟩:=hc;obtain⟨u,r2,hu⟩:=f63 (h:=h) (id:=bi) (o:=3) (l:=fs) ⟨c,w.pH,Rv⟩ (by rw[<-JF,Aw] at XG;omega);exact⟨_,_,r2,⟨e,d,u,tt,G,w.PH (u:=u) (l:=b.AY++[Ci.zero]),⟨_,by rw[BW,JF];rfl,hu⟩,rfl⟩,BL⟩
def ew(w:PB h bi b F)(rm:Cf b n)(x:Int):∃r,Fc h F 156 [Pt bi 2,I x] r bi {b with AA:=Cv x b.AA}:=by obtain⟨d,e,c,tt,G,w,hc,rfl⟩:=w;have ho:=rm.AA;obtain⟨u,r2,hu⟩:=ql w.sO Ac x;exact⟨_,_,_,r2,⟨d,u,c,tt,G,w.Mo hu,hc,rfl⟩,BL⟩
def TS(ba:BA b)(rm:Cf b (n+6))(ht:t.Sm)(hs:t.st Ga):BA (b.CJ t).1/\Cf (b.CJ t).1 n:=by
 have f:=hs.1;have g:Cf (b.Cz t) (n+2):=JR (rm.le Ac) ht.As ht.name;have b4:BA (b.Cz t):=zd ba;have pa:∀{c:BS} {m:Nat},BA c->Cf c m->BA c.Hj/\Cf c.Hj m:=λ{c m} h r=>by
  unfold BS.Hj;split;.exact⟨h,r⟩
  .exact⟨⟨h.ok,h.Cl⟩,r.IH (Ca _ _)⟩
 have en:∀ws,¬t.en ws:=λws h=>by have:=h.1;omega
 have q:∀ws,¬t.kL ws:=λws h=>by have:=h.1;omega
 have hd:¬t.st [aQj]:=λh=>by have h1:=h.2;have h2:=hs.2;rw[AQ.1 h1] at h2;revert h2;decide
 have hx:¬t.st [aQg]:=λh=>by have h1:=h.2;have h2:=hs.2;rw[AQ.1 h1] at h2;revert h2;decide
 have p:¬t.st [aQn]:=λh=>by have h1:=h.2;have h2:=hs.2;rw[AQ.1 h1] at h2;revert h2;decide
 unfold BS.CJ;rw[Af (show¬¬t.ok by unfold DJ.ok;omega),Af Ac,Af hd,Af (q _),Af (show¬t.He by unfold DJ.He;omega),Af Ac,Af hx];by_cases l:t.st SO;.rw[Ag l];exact⟨(pa b4 g).1,(pa b4 g).2.le Ac⟩
 rw[Af l];have i:Cf (b.Cz t) n:=g.le Ac;by_cases k:t.st [aQq];.rw[Ag k];exact⟨⟨b4.ok,b4.Cl⟩,i.eq rfl rfl rfl rfl⟩
 rw[Af k];by_cases j:t.st J_;.rw[Ag j];exact⟨⟨b4.ok,b4.Cl⟩,i.eq rfl rfl rfl rfl⟩
 rw[Af j];by_cases Il:t.st [aQy];.rw[Ag Il];exact⟨⟨b4.ok,b4.Cl⟩,i.eq rfl rfl rfl rfl⟩
 rw[Af Il,Af p,Af (en _)];have NC:t.st [A5]:=⟨f,by
  have key:∀w∈Ga,w∈SO\/w∈[aQq]\/w∈J_\/w∈[aQy]\/w∈[A5]:=AM;rcases key _ hs.2 with h|h|h|h|h
  .exact absurd ⟨f,h⟩ l
  .exact absurd ⟨f,h⟩ k
  .exact absurd ⟨f,h⟩ j
  .exact absurd ⟨f,h⟩ Il
  .exact h⟩
 rw[Ag NC];refine⟨⟨b4.ok,b4.Cl⟩,?_⟩;have d:Cf {b.Cz t with AY:=(b.Cz t).AY++[Ci.zero]} (n+1):=g.xP (e:=Ci.zero) Ax (λe he=>by
  rcases Aq.1 he with he|he
  .exact .inl he
  .exact .inr (by simpa using he)) ⟨AM,AM,λa ha=>by cases ha⟩
 exact⟨(d.le (m':=n) Ac).n,(d.le (m':=n) Ac).at_,(d.le (m':=n) Ac).data,(d.le (m':=n) Ac).AA,(d.le (m':=n) Ac).AY,by have:=d.tm;simp only[Ao,AS] at this⊢;omega,d.DD,d.Z4⟩
def aEP(w:PB h bi b F)(ba:BA b)(rm:Cf b (n+6))(ht:t.Sm)(hv:A6 t.As av)(hs:t.st Ga):Fc h F 27 [Pt bi 0,.agg (B1 t av)] (.bool (b.CJ t).2) bi (b.CJ t).1:=by
 have hk:=hs.1;have hc:av.cells=[av]:=Bz.cells hv;have l:=Jf w t av;rw[Ak (show t.ok by unfold DJ.ok;omega)] at l;have hd:¬t.st [aQj]:=λh=>by have h1:=h.2;have h2:=hs.2;rw[AQ.1 h1] at h2;revert h2;decide
 have hx:¬t.st [aQg]:=λh=>by have h1:=h.2;have h2:=hs.2;rw[AQ.1 h1] at h2;revert h2;decide
 have s:¬t.st [aQn]:=λh=>by have h1:=h.2;have h2:=hs.2;rw[AQ.1 h1] at h2;revert h2;decide
 have en:∀ws,¬t.en ws:=λws h=>by have:=h.1;omega
 have D:∀ws,¬t.kL ws:=λws h=>by have:=h.1;omega
 have k:=EX IZ t av h;have j:=Yl Ym t av h;have i:=Ro t av h;have g:=EX If t av h;have e:=EX Yn t av h;have f:=EX TR t av h;have m:=EX uS t av h;have Y8:=EX Rq t av h;have gp:=EX J2 t av h;have oN:=Yk IZ t av h;have we:=EX FC t av h;rw[Ah hd] at k;rw[Ah (D _)] at j;rw[Ah (show¬t.He by unfold DJ.He;omega)] at i;rw[Ah hx] at g;rw[Ah s] at gp;rw[Ah (en _)] at oN;simp only[B1,hk] at l k j i g e f m Y8 gp oN we;unfold BS.CJ;rw[Af (show¬¬t.ok by unfold DJ.ok;omega),Af Ac,Af hd,Af (D _),Af (show¬t.He by unfold DJ.He;omega),Af Ac,Af hx];have z:Cf (b.Cz t) (n+2):=JR (rm.le Ac) ht.As ht.name;by_cases r:t.st SO
 .rw[Ag r];rw[Ak r] at e;obtain⟨h1,v,c,w1,d⟩:=uj (n:=n+2) w ba (rm.le Ac) ht hv;obtain⟨h2,R,r2,y,x⟩:=aAG w1 z;refine⟨_,_,?_,y,d.trans x⟩;have C:B2 cx 79 [Pt bi 0,.agg (B1 t av)] h (.tuple []) h2:=by rw[Ae,dD];simp only[B9,c.Ad,r2.Ad]
  simp only[B1,hk] at C;rw[Ae,FZ];simp only[abS,↓reduceIte,B1,hk,l.Ad,k.Ad,j.Ad,i.Ad,g.Ad,e.Ad,(AM:¬(2:Int)=1),(AM:¬(2:Int)=4),C.Ad]
 rw[Af r];rw[Ah r] at e;by_cases q:t.st [aQq];.rw[Ag q];rw[Ak q] at f;obtain⟨h1,v,c,w1,d⟩:=uT (n:=n+2) w ba (rm.le Ac) ht hv 2;refine⟨_,_,?_,w1,d⟩;simp only[B1,hk] at c;rw[Ae,FZ];simp only[abS,↓reduceIte,B1,hk,l.Ad,k.Ad,j.Ad,i.Ad,g.Ad,e.Ad,f.Ad,(AM:¬(2:Int)=1),(AM:¬(2:Int)=4),c.Ad]
 rw[Af q];rw[Ah q] at f;by_cases p:t.st J_;.rw[Ag p];rw[Ak p] at m;obtain⟨h1,v,c,w1,d⟩:=uT (n:=n+2) w ba (rm.le Ac) ht hv 3;refine⟨_,_,?_,w1,d⟩;simp only[B1,hk] at c;rw[Ae,FZ];simp only[abS,↓reduceIte,B1,hk,l.Ad,k.Ad,j.Ad,i.Ad,g.Ad,e.Ad,f.Ad,m.Ad,(AM:¬(2:Int)=1),(AM:¬(2:Int)=4),c.Ad]
 rw[Af p];rw[Ah p] at m;by_cases Il:t.st [aQy];.rw[Ag Il];rw[Ak Il] at Y8;obtain⟨h1,v,c,w1,d⟩:=uT (n:=n+2) w ba (rm.le Ac) ht hv 4;refine⟨_,_,?_,w1,d⟩;simp only[B1,hk] at c;rw[Ae,FZ];simp only[abS,↓reduceIte,B1,hk,l.Ad,k.Ad,j.Ad,i.Ad,g.Ad,e.Ad,f.Ad,m.Ad,Y8.Ad,(AM:¬(2:Int)=1),(AM:¬(2:Int)=4),c.Ad]
 rw[Af Il,Af s,Af (en _)];rw[Ah Il] at Y8;have NC:t.st [A5]:=⟨hk,by
  have key:∀w∈Ga,w∈SO\/w∈[aQq]\/w∈J_\/w∈[aQy]\/w∈[A5]:=AM;rcases key _ hs.2 with h|h|h|h|h
  .exact absurd ⟨hk,h⟩ r
  .exact absurd ⟨hk,h⟩ q
  .exact absurd ⟨hk,h⟩ p
  .exact absurd ⟨hk,h⟩ Il
  .exact h⟩
 rw[Ag NC];rw[Ak NC] at we;obtain⟨h1,v,c,w1,d⟩:=uj (n:=n+2) w ba (rm.le Ac) ht hv;obtain⟨h2,R,r2,y,x⟩:=T_ w1 z;obtain⟨N,K,H⟩:=Kv y false;obtain⟨M,B,G⟩:=FB K 18;obtain⟨S,P,A⟩:=B.ltm;have T:(b.Cz t).tm.length<=900000000:=by have:=z.tm;omega
 obtain⟨u,O,hu⟩:=z_ A.1 Gw (put (put h2 bi 14 ff) bi 4 (I 18));have Q:=hu.1.mz 18 (by simp only;have:AJ=140737488355328:=rfl;omega);have em:Az (.DX 1) [I 18]=some (.sl 1 [CM 18]):=rfl;have Qs:SE ((b.Cz t).tm++[(18:Int)]) (.sl 1 (((b.Cz t).tm++[(18:Int)]).map CM)):= .lR;obtain⟨L,J,E⟩:=aAC B Qs;refine⟨_,_,?_,J,(((d.trans x).trans H).trans G).trans E⟩;simp only[B1,hk] at c;rw[Ae,FZ];simp only[abS,↓reduceIte,B1,hk,l.Ad,k.Ad,j.Ad,i.Ad,g.Ad,e.Ad,f.Ad,m.Ad,Y8.Ad,gp.Ad,oN.Ad,we.Ad,(AM:¬(2:Int)=1),(AM:¬(2:Int)=4),c.Ad,r2.Ad,N,M,P,O.Ad,em,Q,L]
def VS(g:Gz b (n+1) o a):BA {b with AA:=b.AA++[BS.EC b.head]}/\Cf {b with AA:=b.AA++[BS.EC b.head]} n:=
 ⟨⟨g.ok.ok,g.ok.Cl⟩,g.rm.pd (i:=BS.EC b.head) (l':=b.AA++[BS.EC b.head]) Ax (λj hj=>by simpa using hj) (AM:(aQj:Aj).length<=1000)⟩
def uk(g:Gz b (n+7) o a)(ht:t.Sm)(hs:t.st Ga):BA (b.FM t).1/\Cf (b.FM t).1 n:=by obtain⟨b1,d⟩:=VS g;obtain⟨b2,c⟩:=TS b1 d ht hs;unfold BS.FM;exact⟨⟨b2.ok,b2.Cl⟩,c.IH Gv⟩
def aI7(w:PB h bi b F)(g:Gz b (n+1005) o a)(ht:t.Sm)(hv:A6 t.As av)(hs:t.st Ga):Fc h F 82 [Pt bi 0,.agg (B1 t av),.func (.func 27) [] []] (.bool (b.FM t).2) bi (b.FM t).1:=by
 have B4:=w.B4;obtain⟨h1,x,p,w1,i⟩:=aAA w g (BS.EC b.head);obtain⟨b1,c⟩:=VS (g.dn (n':=n+6+1) Ac);obtain⟨h2,v,r2,k,f⟩:=aEP w1 b1 c ht hv hs;obtain⟨r,q,u,m,j,d⟩:=ew k (TS b1 c ht hs).2 b.head;refine⟨q,u,?_,j,(i.trans f).trans d⟩;have e:Az (.C2 [I 0,I 0,S [],ff] [(0,1),(1,1),(2,1)]) [I b.head,I 1,S aQj]=some (.agg (BS.EC b.head).row):=rfl;have s:∀l,Cc (.func (.func 27) [] []) l=some (27,l):=λl=>by simp[Cc]
 rw[Ae,tV];simp only[B9,B4,e,p.Ad,s,r2.Ad,m.Ad];rfl
def aEQ(w:PB h bi b F)(g:Gz b (n+1005) o a)(ht:t.Sm)(hv:A6 t.As av)(K:t.st [aQg]->Fc h F 30 [Pt bi 0,.agg (B1 t av)] ff bi (b.Hp t)):Fc h F 29 [Pt bi 0,.agg (B1 t av)] (.bool (b.Gk t).2) bi (b.Gk t).1:=by
 have B4:=w.B4;unfold BS.Gk;by_cases I:¬t.ok;.rw[Ag I];have e:=Jf w t av;rw[Ah I] at e;refine⟨_,_,?_,w,.refl⟩;rw[Ae,JS];simp only[abS,↓reduceIte,e.Ad]
 rw[Af I];have e:=Jf w t av;rw[Ak (Ep.1 I)] at e;by_cases i:t.k=1;.rw[Ag i];refine⟨_,_,?_,w,.refl⟩;rw[Ae,JS];simp only[abS,↓reduceIte,e.Ad,A3 i]
 rw[Af i];by_cases H:t.st [aQj];.rw[Ag H];have f:=EX IZ t av h;rw[Ak H] at f;refine⟨_,_,?_,w,.refl⟩;rw[Ae,JS];simp only[abS,↓reduceIte,e.Ad,f.Ad,i]
 rw[Af H];have f:=EX IZ t av h;rw[Ah H] at f;by_cases G:t.kL uO;.rw[Ag G];have j:=Yl aF t av h;rw[Ak G] at j;refine⟨_,_,?_,w,.refl⟩;rw[Ae,JS];simp only[abS,↓reduceIte,e.Ad,f.Ad,j.Ad,i]
 rw[Af G];have j:=Yl aF t av h;rw[Ah G] at j;by_cases E:t.He;.rw[Ag E];have l:=Ro t av h;rw[Ak E] at l;obtain⟨h1,v,c,w1,d⟩:=Yg w (g.dn (n':=n+5) Ac) ht.r;refine⟨_,_,?_,w1,d⟩;rw[Ae,JS];simp only[abS,↓reduceIte,e.Ad,f.Ad,j.Ad,l.Ad,i,c.Ad]
 rw[Af E];have l:=Ro t av h;rw[Ah E] at l;by_cases p:t.k=4;.rw[Ag p];obtain⟨h1,v,c,w1,d⟩:=LK (s:=t.data) w (g.dn (n':=n+1) Ac) (by have:=ht.data;omega) 0;refine⟨_,_,?_,w1,d⟩;rw[Ae,JS];simp only[abS,↓reduceIte,e.Ad,f.Ad,j.Ad,l.Ad,i,A3 p,c.Ad]
 rw[Af p];by_cases B:t.st [aQg];.rw[Ag B];have m:=EX If t av h;rw[Ak B] at m;obtain⟨h1,v,c,w1,d⟩:=K B;refine⟨_,_,?_,w1,d⟩;rw[Ae,JS];simp only[abS,↓reduceIte,e.Ad,f.Ad,j.Ad,l.Ad,m.Ad,i,p,c.Ad]
 rw[Af B];have m:=EX If t av h;rw[Ah B] at m;by_cases D:t.st [aQk];.rw[Ag D];have q:=EX oM t av h;rw[Ak D] at q;obtain⟨h1,v,c,w1,d⟩:=EW w (g.dn (n':=n+4) Ac) ht hv;obtain⟨J,z,y⟩:=Kv w1 false;obtain⟨N,M,L⟩:=FB z 7;refine⟨_,_,?_,M,(d.trans y).trans L⟩;rw[Ae,JS];simp only[abS,↓reduceIte,e.Ad,f.Ad,j.Ad,l.Ad,m.Ad,q.Ad,i,p,c.Ad,J,N]
 rw[Af D];have q:=EX oM t av h;rw[Ah D] at q;by_cases C:t.st [aQp];.rw[Ag C];have u:=EX SQ t av h;rw[Ak C] at u;obtain⟨h1,v,c,w1,d⟩:=EW w (g.dn (n':=n+4) Ac) ht hv;obtain⟨J,z,y⟩:=FB w1 20;refine⟨_,_,?_,z,d.trans y⟩;rw[Ae,JS];simp only[abS,↓reduceIte,e.Ad,f.Ad,j.Ad,l.Ad,m.Ad,q.Ad,u.Ad,i,p,c.Ad,J]
 rw[Af C];have u:=EX SQ t av h;rw[Ah C] at u;by_cases A:t.st Ga;.rw[Ag A];have x:=EX Qn t av h;rw[Ak A] at x;obtain⟨h1,v,c,w1,d⟩:=aI7 w g ht hv A;refine⟨_,_,?_,w1,d⟩;rw[Ae,JS];simp only[abS,↓reduceIte,e.Ad,f.Ad,j.Ad,l.Ad,m.Ad,q.Ad,u.Ad,x.Ad,i,p,c.Ad]
 rw[Af A];have x:=EX Qn t av h;rw[Ah A] at x;by_cases Il:t.en [A5];.rw[Ag Il];have Y8:=Yk FC t av h;rw[Ak Il] at Y8;obtain⟨h1,v,c,w1,d⟩:=jU w (g.dn (n':=n+1004) Ac) ht hv K;refine⟨_,_,?_,w1,d⟩;rw[Ae,JS];simp only[abS,↓reduceIte,e.Ad,f.Ad,j.Ad,l.Ad,m.Ad,q.Ad,u.Ad,x.Ad,Y8.Ad,i,p,c.Ad]
 rw[Af Il];have Y8:=Yk FC t av h;rw[Ah Il] at Y8;have rt:=ud aQk h;obtain⟨h1,v,c,w1,d⟩:=EW (t:=Ll aQk) (av:= .slnil) w (g.dn (n':=n+4) Ac) (I4 AM) (.inr ⟨rfl,rfl⟩);obtain⟨h2,O,r2,z,y⟩:=uQ w1 7;simp only[Ll] at rt c;refine⟨_,_,?_,z,d.trans y⟩;rw[Ae,JS];simp only[abS,↓reduceIte,e.Ad,f.Ad,j.Ad,l.Ad,m.Ad,q.Ad,u.Ad,x.Ad,Y8.Ad,i,p,rt.Ad,c.Ad,r2.Ad,BS.again]
def aER(w:PB h bi b F)(g:Gz b (n+5) o a)(ht:t.Sm)(hv:A6 t.As av):Fc h F 31 [Pt bi 0,.agg (B1 t av)] (.bool (b.Jc t).2) bi (b.Jc t).1:=by
 have B4:=w.B4;unfold BS.Jc;by_cases m:¬t.ok;.rw[Ag m];have d:=Jf w t av;rw[Ah m] at d;refine⟨_,_,?_,w,.refl⟩;rw[Ae,Rj];simp only[abS,↓reduceIte,d.Ad]
 rw[Af m];have d:=Jf w t av;rw[Ak (Ep.1 m)] at d;by_cases e:t.k=5;.rw[Ag e];obtain⟨h1,u,i,w1,f⟩:=Yg w (g.dn (n':=n+5) Ac) ht.r;refine⟨_,_,?_,w1,f⟩;rw[Ae,Rj];simp only[abS,↓reduceIte,d.Ad,A3 e,i.Ad]
 rw[Af e];by_cases j:t.k=6
 .rw[Ag j];obtain⟨h1,u,i,w1,f⟩:=ON w (g.dn (n':=n) Ac);have s:b.Hj.Qu=b.Qu:=by unfold BS.Hj;split<;>rfl
  have c:=w1.B4;rw[s] at c;obtain⟨h2,x,r2,q,p⟩:=uQ w1 b.Qu;refine⟨_,_,?_,q,f.trans p⟩;rw[Ae,Rj];simp only[abS,↓reduceIte,d.Ad,e,A3 j,i.Ad,c,r2.Ad,BS.again]
 rw[Af j];by_cases l:t.k=3
 .rw[Ag l];obtain⟨h1,u,i,w1,f⟩:=ON w (g.dn (n':=n) Ac);have s:b.Hj.Qu=b.Qu:=by unfold BS.Hj;split<;>rfl
  have c:=w1.B4;rw[s] at c;obtain⟨v,q,p⟩:=FB w1 b.Qu;refine⟨_,_,?_,q,f.trans p⟩;rw[Ae,Rj];simp only[abS,↓reduceIte,d.Ad,e,j,A3 l,i.Ad,c,v]
 rw[Af l];refine⟨_,_,?_,w,.refl⟩;rw[Ae,Rj];simp only[abS,↓reduceIte,d.Ad,e,j,l]
end
structure SW(h:Ai)(bi:Nat)(b:BS)(F:Nat->Prop)(si:Nat)(t:DJ)(av:Aa):Prop where
 pb:PB h bi b F
 sc:h[si]?=some (.cells (Pt bi 0::B1 t av))
 no:¬F si
section
variable{h h':Ai}{bi si:Nat}{b b':BS}{F F':Nat->Prop}{n o a:Nat}{t:DJ}{av:Aa}
def SW.after(w:SW h bi b F si t av)(p:PB h' bi b' F')(x:EH h F h' F'):SW h' bi b' F' si t av:=by
 have hl:=(Al.1 w.sc).1;refine⟨p,by rw[x.old si hl w.no];exact w.sc,λhf=>?_⟩;rcases x.BI si hf with h1|h1
 .exact w.no h1
 .omega
def SW.B4(w:SW h bi b F si t av):Bd h none (Pt si 0)=some (Pt bi 0)/\Bd h (some 12) (Pt si 1)=some (.agg (B1 t av))/\Bd h none (Pt si 2)=some (.str t.name)/\Bd h none (Pt si 12)=some (.int .i32 t.r)/\Bd h none (Pt si 10)=some (.bool t.sc)/\Bd h none (Pt bi 1)=some (I b.Cl)/\Bd h none (Pt bi 4)=some (I b.mode)/\Bd h none (Pt bi 5)=some (I b.Qu)/\Bd h none (Pt bi 7)=some (I b.head)/\Bd h none (Pt bi 8)=some (I b.IG)/\Bd h none (Pt bi 14)=some (.bool b.fs)/\Bd h none (Pt bi 18)=some (I b.sw)/\Bd h none (Pt bi 19)=some (.bool b.stop):=by refine⟨by simp only[Bd,w.sc];rfl,by simp only[Bd,w.sc];rfl,by simp only[Bd,w.sc];rfl,by simp only[Bd,w.sc];rfl,by simp only[Bd,w.sc];rfl,w.pb.B4⟩
def oO{s:Aj}:Az (.DX 1) [.str s]=some (.sl 1 ([s].map B6)):=Ez (ws:=[s]) rfl Ax
def SR(w:SW h bi b F si t av)(g:Gz b n o a)(s:Aj):B2 cx 243 [Pt si 0,.str s] h (.bool (b.has [s])) h:=by have l0:=w.B4;have c:=SP w.pb g 1 (CO (ws:=[s])) Ax;rw[Ae,iA];simp only[abS,l0,oO,c.Ad];rfl
def jV(w:SW h bi b F si t av)(g:Gz b n o a)(s ex:Aj):Fc h F 244 [Pt si 0,.str s,.str ex] (.tuple []) bi (b.Ds s ex):=by have l0:=w.B4;obtain⟨_,h1,m,j,f,d⟩:=LL w.pb g ex;have w1:=w.after f d;have l1:=w1.B4;obtain⟨_,h2,l,r2,e,c⟩:=jQ f (g.IH Cq) (CO (ws:=[s])) Ax;have i:=w1.after e c;have k:=i.B4;refine⟨_,_,?_,e,d.trans c⟩;rw[Ae,iB];simp only[abS,l0,j.Ad,l1,r2.Ad,oO]
def um(w:SW h bi b F si t av)(g:Gz b (n+4) o a)(ht:t.Sm)(hv:A6 t.As av):Fc h F 160 [Pt si 0] (.tuple []) bi (b.block t):=by have l0:=w.B4;obtain⟨h1,m,j,f,d⟩:=IY w.pb g;have w1:=w.after f d;have l1:=w1.B4;obtain⟨h2,l,r2,e,c⟩:=EW f g.B7 ht hv;have i:=w1.after e c;have k:=i.B4;refine⟨_,_,?_,e,d.trans c⟩;rw[Ae,fD];simp only[abS,l0,j.Ad,l1,r2.Ad]
def aI8(s:Aj):Nr cx 241 [.str s] (.bool (decide (s∈C9))):=by
 rw[R6,hO];match s with
 |[]=>simp[C9]
 |[a]=>simp[C9]
 |[a,b]=>
  have e:decide ([a,b]∈C9)=decide (a.toNat=104/\49<=b.toNat/\b.toNat<=54):=by simp only[C9,AF,M7,vo,EJ,J7,<-UInt8.toNat_inj];have g:UInt8.toNat 104=104/\UInt8.toNat 49=49/\UInt8.toNat 50=50/\UInt8.toNat 51=51/\UInt8.toNat 52=52/\UInt8.toNat 53=53/\UInt8.toNat 54=54:=AM;simp only[g];rw[C7];omega
  rw[e];have i1:((a.toNat:Int)=104)↔a.toNat=104:=Ac;have d:((49:Int)<=b.toNat)↔49<=b.toNat:=Ac;have i3:((b.toNat:Int)<=54)↔b.toNat<=54:=Ac;have i:((b.toNat:Int)<49)↔b.toNat<49:=Ac;simp[i1,d,i3];by_cases h1:a.toNat=104<;>by_cases h2:49<=b.toNat<;>by_cases f:b.toNat<=54<;>simp[h1,h2,f]<;>omega
 |a::b::c::l=>simp[C9];omega
def Uz(i:Item):i.row=[I i.node,I i.Be,.str i.name,.bool i.OI]:=rfl
def aI9(w:SW h bi b F si t av)(g:Gz b (n+4) o a)(ht:t.Sm)(hv:A6 t.As av):Fc h F 161 [Pt si 0] (.tuple []) bi (b.JY t):=by
 have m:=(aI8 (Fs b.B7.AA).name);unfold BS.JY;dsimp only;by_cases j:(Fs b.B7.AA).Be=1
 .by_cases p:(Fs b.B7.AA).name∈C9;.rw[show Bf C9 (Fs b.B7.AA)=true by simp[Bf,j,p],Ag rfl];rw[Ak p] at m;have l0:=w.B4;obtain⟨h1,v,k,c,e⟩:=IY w.pb g;have w1:=w.after c e;have l1:=w1.B4;have l:=oL c g.B7;obtain⟨h2,u,r2,f,d⟩:=ON c g.B7;have i:=w1.after f d;have q:=i.B4;obtain⟨z,A,y,s,r⟩:=EW f g.B7.Hj ht hv;have x:=i.after s r;have l3:=x.B4;refine⟨_,_,?_,s,(e.trans d).trans r⟩;rw[Ae,So];simp only[abS,↓reduceIte,l0,k.Ad,l1,l.Ad,r2.Ad,q,y.Ad,Uz,A3 j,m.Cb rfl rfl]
  .rw[show Bf C9 (Fs b.B7.AA)=false by simp[Bf,j,p],Af Ax];rw[Ah p] at m;have l0:=w.B4;obtain⟨h1,v,k,c,e⟩:=IY w.pb g;have w1:=w.after c e;have l1:=w1.B4;have l:=oL c g.B7;obtain⟨h2,u,r2,f,d⟩:=EW c g.B7 ht hv;have i:=w1.after f d;have q:=i.B4;refine⟨_,_,?_,f,e.trans d⟩;rw[Ae,So];simp only[abS,↓reduceIte,l0,k.Ad,l1,l.Ad,r2.Ad,Uz,A3 j,m.Cb rfl rfl]
 .rw[show Bf C9 (Fs b.B7.AA)=false by simp[Bf,j],Af Ax];have l0:=w.B4;obtain⟨h1,v,k,c,e⟩:=IY w.pb g;have w1:=w.after c e;have l1:=w1.B4;have l:=oL c g.B7;obtain⟨h2,u,r2,f,d⟩:=EW c g.B7 ht hv;have i:=w1.after f d;have q:=i.B4;refine⟨_,_,?_,f,e.trans d⟩;rw[Ae,So];simp only[abS,↓reduceIte,l0,k.Ad,l1,l.Ad,r2.Ad,Uz,j]
def aJa(w:SW h bi b F si t av)(g:Gz b (n+4) o a)(ht:t.Sm)(hv:A6 t.As av):Fc h F 162 [Pt si 0] (.tuple []) bi (b.Tm t):=by have l0:=w.B4;obtain⟨h1,r,p,k,e⟩:=um w g ht hv;have w1:=w.after k e;have l1:=w1.B4;obtain⟨r2,j,d⟩:=ub k true;have f:=w1.after j d;have q:=f.B4;obtain⟨m,i,c⟩:=Kv j false;have l:=f.after i c;have l3:=l.B4;refine⟨_,_,?_,i,(e.trans d).trans c⟩;rw[Ae,fE];simp only[abS,p.Ad,l1,r2,q,m]
def aJb(w:SW h bi b F si t av)(g:Gz b (n+4) o a)(ht:t.Sm)(hv:A6 t.As av):Fc h F 174 [Pt si 0] (.tuple []) bi (b.PK t):=by
 unfold BS.PK;dsimp only;by_cases k:b.IG=0
 .by_cases d:b.Vj;.rw[Af (by simp[k]),Ag d];have l0:=w.B4;have c:=Rp w.pb g;rw[Ak d] at c;obtain⟨h1,u,m,j,f⟩:=IY w.pb g;have w1:=w.after j f;have l1:=w1.B4;obtain⟨h2,s,r2,i,e⟩:=EW j g.B7 ht hv;have l:=w1.after i e;have p:=l.B4;refine⟨_,_,?_,i,f.trans e⟩;rw[Ae,Qh];simp only[abS,l0,c.Ad,m.Ad,l1,r2.Ad,p,A3 k,Cj]
  .rw[Af (by simp[k]),Af d];have l0:=w.B4;have c:=Rp w.pb g;rw[Ah d] at c;obtain⟨h1,u,m,j,f⟩:=IY w.pb g;have w1:=w.after j f;have l1:=w1.B4;obtain⟨h2,s,r2,i,e⟩:=EW j g.B7 ht hv;have l:=w1.after i e;have p:=l.B4;obtain⟨x,r,q⟩:=jR i (b.B7.Nz 1);have v:=l.after r q;have l3:=v.B4;refine⟨_,_,?_,r,(f.trans e).trans q⟩;rw[Ae,Qh];simp only[abS,l0,c.Ad,m.Ad,l1,r2.Ad,p,x,A3 k,Cj]
 .by_cases d:b.Vj;.rw[Af (by simp[d]),Ag d];have l0:=w.B4;have c:=Rp w.pb g;rw[Ak d] at c;obtain⟨h1,u,m,j,f⟩:=IY w.pb g;have w1:=w.after j f;have l1:=w1.B4;obtain⟨h2,s,r2,i,e⟩:=EW j g.B7 ht hv;have l:=w1.after i e;have p:=l.B4;refine⟨_,_,?_,i,f.trans e⟩;rw[Ae,Qh];simp only[abS,l0,c.Ad,m.Ad,l1,r2.Ad,p,k,Cj]
  .rw[Ag ⟨k,d⟩];have l0:=w.B4;have c:=Rp w.pb g;rw[Ah d] at c;refine⟨_,_,?_,w.pb,.refl⟩;rw[Ae,Qh];simp only[abS,l0,c.Ad,k,Cj]
def aJc(w:SW h bi b F si t av)(g:Gz b (n+4*a+4) o a)(ht:t.Sm)(hv:A6 t.As av):Fc h F 175 [Pt si 0] (.tuple []) bi (b.M3 t):=by
 unfold BS.M3;dsimp only;cases v:b.has [aQi] with
 |true=>have g1:Gz (b.Ds aQi []) (n+4+4*a) o a:=g.Ds.dn Ac;rw[Ag rfl];have l0:=w.B4;have i:=SR w g aQi;rw[v] at i;obtain⟨h1,A,q,l,e⟩:=jV w g aQi [];have w1:=w.after l e;have l1:=w1.B4;obtain⟨h2,z,r2,k,d⟩:=CV l g1;have f:=w1.after k d;have r:=f.B4;obtain⟨B,C,p,j,c⟩:=EW k g1.AU ht hv;have m:=f.after j c;have l3:=m.B4;obtain⟨y,u,s⟩:=Kv j false;have x:=m.after u s;have l4:=x.B4;refine⟨_,_,?_,u,((e.trans d).trans c).trans s⟩;rw[Ae,VA];simp only[abS,l0,i.Ad,q.Ad,l1,r2.Ad,r,p.Ad,l3,y]
 |false=>have g1:Gz b (n+4+4*a) o a:=g.dn Ac;rw[Af Ax];have l0:=w.B4;have i:=SR w g aQi;rw[v] at i;obtain⟨h1,A,q,l,e⟩:=CV w.pb g1;have w1:=w.after l e;have l1:=w1.B4;obtain⟨h2,z,r2,k,d⟩:=EW l g1.AU ht hv;have f:=w1.after k d;have r:=f.B4;obtain⟨p,j,c⟩:=Kv k false;have m:=f.after j c;have l3:=m.B4;refine⟨_,_,?_,j,(e.trans d).trans c⟩;rw[Ae,VA];simp only[abS,l0,i.Ad,q.Ad,l1,r2.Ad,r,p]
def aAH(w:SW h bi b F si t av)(g:Gz b (n+4*a+5) o a)(ht:t.Sm)(hv:A6 t.As av):Fc h F 163 [Pt si 0] (.tuple []) bi (b.tk t):=by have g1:Gz b (n+5+4*a) o a:=g.dn Ac;have l0:=w.B4;obtain⟨h1,m,j,f,d⟩:=CV w.pb g1;have w1:=w.after f d;have l1:=w1.B4;obtain⟨h2,l,r2,e,c⟩:=tr f g1.AU ht hv;have i:=w1.after e c;have k:=i.B4;refine⟨_,_,?_,e,d.trans c⟩;rw[Ae,fF];simp only[abS,l0,j.Ad,l1,r2.Ad]
def aAI(w:PB h bi b F)(g:Gz b n o a)(x:Int):∃r,Fc h F 248 [Pt bi 3,I x] r bi {b with AY:=BS.JZ b.AY x}:=by
 obtain⟨i,f,c,tt,G,w,hc,rfl⟩:=w;have XG:=g.rm.AY;have l3:=w.l3;obtain⟨fs,JF,Rv⟩:=hc;have Iq:fs.length=b.AY.length:=by rw[<-JF,Aw]
 have d:=f41 w.pH Rv Ac x;rw[XZ,JF] at d;by_cases k:Fy x b.AY<0
 .have e:BS.JZ b.AY x=b.AY:=by unfold BS.JZ;rw[Ag k]
  refine⟨ff,h,BI bi G,?_,⟨i,f,c,tt,G,?_,⟨fs,?_,Rv⟩,rfl⟩,.refl⟩;.rw[Ae,VL];simp only[abS,d.Ad,A3 k]
  .rw[e];exact w
  .rw[e];exact JF
 .have hlt:(Fy x b.AY).toNat<fs.length:=by obtain⟨p,hp,e,_⟩:=JV (n:=x) (l:=b.AY) Ac;omega
  obtain⟨u,r2,hu⟩:=aDs (h:=h) Rv hlt Ac;have he:((Fy x b.AY).toNat:Int)=Fy x b.AY:=Ac;rw[he] at r2;have w':=w.PH (u:=u) (l:=BS.JZ b.AY x);have zI:Dn (BS.JZ b.AY x) u:=⟨Bv fs (Fy x b.AY).toNat,by unfold BS.JZ;rw[Af k,<-JF];unfold Bv;simp[GM,K5],hu⟩;refine⟨.bool true,_,_,?_,⟨i,f,u,tt,G,w',zI,rfl⟩,BL⟩;rw[Ae,VL];simp only[abS,d.Ad,k,l3,r2.Ad,w.st (k:=3) (v0:=c) rfl (EP.cells hu)]
def aJd(w:SW h bi b F si t av)(g:Gz b (n+4*a+5) o a)(ht:t.Sm)(hv:A6 t.As av):Fc h F 164 [Pt si 0] (.tuple []) bi (b.BO t):=by have g1:Gz b (n+1+4+4*a) o a:=g.dn Ac;have l0:=w.B4;obtain⟨h1,A,u,p,f⟩:=CV w.pb g1;have w1:=w.after p f;have l1:=w1.B4;obtain⟨h2,z,r2,m,e⟩:=EW p g1.AU ht hv;have j:=w1.after m e;have v:=j.B4;obtain⟨x,y,s,l,d⟩:=t_ m (g1.AU.Cz ht);have i:=j.after l d;have l3:=i.B4;obtain⟨r,k,c⟩:=Kv l false;have q:=i.after k c;have l4:=q.B4;refine⟨_,_,?_,k,((f.trans e).trans d).trans c⟩;rw[Ae,fG];simp only[abS,l0,u.Ad,l1,r2.Ad,v,s.Ad,l3,r]
def aJe(w:SW h bi b F si t av)(g:Gz b (n+8*(4*(o+a+8)+10)+8*a+100) o a)(ht:t.Sm)(hv:A6 t.As av):Fc h F 177 [Pt si 0] (.tuple []) bi (b.Y7 t):=by
 have g0:Gz b (n+5+4*(a+8)+8*(4*(o+a+8)+10)+4*a) o a:=g.dn Ac;have g1:=g0.AU;unfold BS.Y7;dsimp only;cases u:b.AU.has [aQE] with
 |true=>simp only[BE];have l0:=w.B4;obtain⟨h1,A,k,i,d⟩:=CV w.pb g0;have w1:=w.after i d;have l1:=w1.B4;have e:=SR w1 g1 aQE;rw[u] at e;obtain⟨h2,z,r2,f,c⟩:=Yi i g1 aQE;have j:=w1.after f c;have s:=j.B4;obtain⟨C,E,y,r,m⟩:=CV f g1.Dh;have p:=j.after r m;have l3:=p.B4;obtain⟨B,D,x,q,l⟩:=tr r g1.Dh.AU ht hv;have v:=p.after q l;have l4:=v.B4;refine⟨_,_,?_,q,((d.trans c).trans m).trans l⟩;rw[Ae,VC];simp only[abS,l0,k.Ad,l1,e.Ad,r2.Ad,s,y.Ad,l3,x.Ad]
 |false=>simp only[Ch,DR];have l0:=w.B4;obtain⟨h1,A,k,i,d⟩:=CV w.pb g0;have w1:=w.after i d;have l1:=w1.B4;have e:=SR w1 g1 aQE;rw[u] at e;obtain⟨h2,z,r2,f,c⟩:=tr i (g1.dn (n':=n+5) Ac) ht hv;have j:=w1.after f c;have s:=j.B4;refine⟨_,_,?_,f,d.trans c⟩;rw[Ae,VC];simp only[abS,l0,k.Ad,l1,e.Ad,r2.Ad]
def aET(w:PB h bi b F)(g:Gz b n o a):∃x r u,Bd h none (Pt bi 0)=some (Pt x 0)/\B2 cx 107 [Pt x 0,I b.Cl] h (.tuple [.agg r,I 0]) (h++u)/\r.length=13/\r.getD 10 .nilIface= .bool (b.a.nd b.Cl).CL:=by obtain⟨f,i,c,tt,G,w,hc,rfl⟩:=w;have l0:=w.l0;obtain⟨n',m',ps,e⟩:=w.w.pa;obtain⟨r,u,d,K,V,rfl,k,j⟩:=Ź (x:=b.Cl) e g.rm.TD (g.rm.TD.Bm g.ok.ok _);rw[Ag g.ok.Cl.1] at d;exact⟨f,_,u,l0,d,rfl,rfl⟩
def aJf(w:SW h bi b F si t av)(g:Gz b (n+4) o a)(ht:t.Sm)(hv:A6 t.As av):Fc h F 178 [Pt si 0] (.tuple []) bi (b.Ma t):=by
 obtain⟨x,r,u,lt,rn,Jv,Lu⟩:=aET w.pb g;have z:=w.B4;have C:SW (h++u) bi b F si t av:=w.after w.pb.Jn ⟨Ax,λi hi _=>An hi,λ_ hf=> .inl hf⟩;have B:EH h F (h++u) F:=⟨Ax,λi hi _=>An hi,λ_ hf=> .inl hf⟩;have key:∀(w:SW (h++u) bi b F si t av),∃h' F',W cx (BZ cx 178 [Pt si 0]) (λx vs h1=>x= .ret/\vs=[.tuple []]/\h1=h') h/\PB h' bi (b.Ma t) F'/\EH (h++u) F h' F':=by
  intro w;unfold BS.Ma;dsimp only;cases A:(b.a.nd b.Cl).CL with
  |true=>rw[A] at Lu;simp only[BE];have l0:=w.B4;obtain⟨h1,G,q,l,e⟩:=EW w.pb g ht hv;have w1:=w.after l e;have l1:=w1.B4;obtain⟨r2,k,d⟩:=Kv l false;have f:=w1.after k d;have s:=f.B4;obtain⟨p,j,c⟩:=FB k 9;have m:=f.after j c;have l3:=m.B4;refine⟨_,_,?_,j,(e.trans d).trans c⟩;rw[VD];simp only[abS,↓reduceIte,z,lt,rn.Ad,Jv,Lu,l0,q.Ad,l1,r2,s,p]
  |false=>rw[A] at Lu;simp only[Ch,DR];have l0:=w.B4;obtain⟨h1,G,q,l,e⟩:=IY w.pb g;have w1:=w.after l e;have l1:=w1.B4;obtain⟨h2,H,r2,k,d⟩:=EW l g.B7 ht hv;have f:=w1.after k d;have s:=f.B4;obtain⟨p,j,c⟩:=Kv k false;have m:=f.after j c;have l3:=m.B4;obtain⟨E,y,v⟩:=FB j 9;have D:=m.after y v;have l4:=D.B4;refine⟨_,_,?_,y,((e.trans d).trans c).trans v⟩;rw[VD];simp only[abS,↓reduceIte,z,lt,rn.Ad,Jv,Lu,l0,q.Ad,l1,r2.Ad,s,p,l3,E]
 obtain⟨h',F',r',p',x'⟩:=key C;exact⟨h',F',Ae.2 r',p',B.trans x'⟩
def uo(h:Ai)(F:Nat->Prop)(si:Nat)(f:FuncId)(args:List Aa)(r:Aa)(bi:Nat)(b':BS):Prop:=∃h' F',B2 cx f args h r h'/\PB h' bi b' F'/\EH h (λi=>F i\/i=si) h' (λi=>F' i\/i=si)
def EH.oP(x:EH h F h' F'):EH h (λi=>F i\/i=si) h' (λi=>F' i\/i=si):=
 ⟨x.len,λi hi hn=>x.old i hi λhf=>hn (.inl hf),λi hi=>by
  rcases hi with hi|hi
  .rcases x.BI i hi with h1|h1
   .exact .inl (.inl h1)
   .exact .inr h1
  .exact .inl (.inr hi)⟩
def Fc.K9{f:FuncId}{args:List Aa}{r:Aa}(d:Fc h F f args r bi b'):uo h F si f args r bi b':=by obtain⟨h1,i,e,g,c⟩:=d;exact⟨h1,i,e,g,c.oP⟩
def aAJ(i:Item)(s:Aj)(h:Ai):B2 cx 245 [.agg i.row,.str s] h (.bool (Bf [s] i)) h:=by
 rw[Ae,iC];simp only[B9,Uz];refine⟨λh1=>?_,λh1=>?_⟩;.simp[Bf,h1]
 .simp[Bf,h1]
def uq(w:SW h bi b F si t av):B2 cx 246 [Pt si 0] h (.tuple [I (DO b.AA 1).node,.bool b.Lm]) h:=by
 have l0:=w.B4;have d:=S_ w.pb 1;have r2:=Yj w.pb;have c:=aAJ (DO b.AA 1) aQk h;rw[Uz] at d c;rw[Ae,iD];simp only[abS,l0,d.Ad,r2.Ad,c.Ad];refine⟨λh1=>?_,λh1=>?_⟩
 .have:2<=b.AA.length:=by omega
  simp[BS.Lm,this]
 .have:¬2<=b.AA.length:=by omega
  simp[BS.Lm,this]
def aAK:Kf aR2 wDD:=MK Eg
def aAL:Kf [108,105] [[108,105]]:=MK Eg
def yU:Kf aRt Y4:=MK Eg
def aAM:Kf aQr C9:=MK Eg
def aJg(w:SW h bi b F si t av)(g:Gz b (n+4) o a)(ht:t.Sm)(hv:A6 t.As av):Fc h F 170 [Pt si 0] (.tuple []) bi (b.Y6 t):=by
 have ho:=g.rm.AA;obtain⟨E,G,z⟩:=Kv w.pb false;have w1:=w.after G z;have l0:=w.B4;have l1:=w1.B4;have g1:Gz {b with fs:=false} (n+4) o a:=g.eq rfl rfl rfl rfl rfl;have ln:=Yj w1.pb;have OT:Ev cx 170 [Pt si 0] h λr h'=>r= .tuple []/\∃F',PB h' bi (b.Y6 t) F'/\EH h F h' F':=by
  unfold Ev BS.Y6;generalize{b with fs:=false}=c at*;rw[fI];have e0:(c.AA.length:Int)<=900000000:=by have:=g1.rm.AA;omega
  by_cases y:t.name=[108,105]
  .obtain⟨ws,vy⟩:∃ws,ws=(if t.name=[108,105] then[[108,105]] else wDD):=⟨_,rfl⟩;have hw:Kf [108,105] ws:=by rw[vy,Ag y];exact aAL
   rw[<-vy];clear vy;simp only[abS,l0,l1,E,A3 y,Cj,ln.Ad,DN (Ac: -9223372036854775808<=(c.AA.length:Int)-1) (Ac:(c.AA.length:Int)-1<9223372036854775808)];generalize put h bi 14 ff=hs at*;refine E2 (i:=0) (λn:Nat=>[I ((n:Int)-1)]) (λn h1=>n<=c.AA.length/\c.AA.reverse.find? (BS.Jd ws)=(c.AA.take n).reverse.find? (BS.Jd ws)/\h1=hs) (λn=>n) (λn h1=>∃F',PB h1 bi (c.HG ws) F'/\EH hs F h1 F') c.AA.length rfl ⟨Ab _,by rw[BN],rfl⟩ ?_ ?_
   .rintro n h1 ⟨hn,ha,rfl⟩;cases n with
    |zero=>
     have e:c.HG ws=c:=by unfold BS.HG;rw[ha];rfl
     simp only[abS,(Ac:¬(0:Int)<=((0:Nat):Int)-1)];exact .IE 0 rfl ⟨F,by rw[e];exact w1.pb,.refl⟩
    |succ n=>
     have hlt:n<c.AA.length:=Ac;have i1:((n+1:Nat):Int)-1=(n:Int):=Ac;have r2:=S_ w1.pb (n:Int);rw[HL hlt] at r2;rw[SF hlt,Hz] at ha;generalize hi:c.AA[n]=i at*;rw[Uz] at r2;have k:=uP hw i.name;have l:=uP yU i.name;have f:=zi i.Be i.name;have sub:=DN (Ac: -9223372036854775808<=(n:Int)-1) (Ac:(n:Int)-1<9223372036854775808);by_cases p:Bf ws i=true
     .have d:i.Be=1/\i.name∈ws:=by simpa[Bf] using p
      rw[Ak d.2] at k;obtain⟨h2,x,s,u,q⟩:=jV w1 g1 i.name i.name;have e:c.HG ws=c.Ds i.name i.name:=by unfold BS.HG;rw[ha];simp[BS.Jd,p]
      simp only[abS,↓reduceIte,l1,i1,(Ac:(0:Int)<=(n:Int)),r2.Ad,A3 d.1,k.Cb rfl rfl,s.Ad];exact .IE (n+1) (by rw[i1]) ⟨x,by rw[e];exact u,q⟩
     .have ċ:Bf ws i=false:=by simpa using p
      have C:BS.Jd ws i=(Dp i&& !(Bf Y4 i)):=by simp[BS.Jd,ċ]
      rw[C] at ha;have stop:Dp i=true->Bf Y4 i=false->c.HG ws=c:=λh1 h2=>by unfold BS.HG;rw[ha,h1,h2];simp[ċ]
      have go:(Dp i&& !(Bf Y4 i))=false->c.AA.reverse.find? (BS.Jd ws)=(c.AA.take n).reverse.find? (BS.Jd ws):=λh1=>by rw[ha,h1]
      by_cases d:i.Be=1
      .have B:i.name∉ws:=λh=>p (by simp[Bf,d,h]);rw[Ah B] at k;by_cases j:Dp i=true
       .have jW:Ef i.Be i.name=true:=j;rw[jW] at f;by_cases m:i.name∈Y4;.rw[Ak m] at l;simp only[abS,↓reduceIte,l1,i1,(Ac:(0:Int)<=(n:Int)),r2.Ad,A3 d,k.Cb rfl rfl,l.Cb rfl rfl,f.Cb rfl rfl,sub];exact .next n rfl ⟨Ac,go (by simp[Bf,d,m]),rfl⟩ Ac
        .rw[Ah m] at l;simp only[abS,↓reduceIte,l1,i1,(Ac:(0:Int)<=(n:Int)),r2.Ad,A3 d,k.Cb rfl rfl,l.Cb rfl rfl,f.Cb rfl rfl,sub];exact .IE (n+1) (by rw[i1]) ⟨F,by rw[stop j (by simp[Bf,m])];exact w1.pb,.refl⟩
       .have jW:Ef i.Be i.name=false:=by simpa[Dp] using j
        rw[jW] at f;simp only[abS,↓reduceIte,l1,i1,(Ac:(0:Int)<=(n:Int)),r2.Ad,A3 d,k.Cb rfl rfl,f.Cb rfl rfl,sub];exact .next n rfl ⟨Ac,go (by simp[show Dp i=false from jW]),rfl⟩ Ac
      .by_cases j:Dp i=true;.have jW:Ef i.Be i.name=true:=j;rw[jW] at f;simp only[abS,↓reduceIte,l1,i1,(Ac:(0:Int)<=(n:Int)),r2.Ad,d,f.Cb rfl rfl,sub];exact .IE (n+1) (by rw[i1]) ⟨F,by rw[stop j (by simp[Bf,d])];exact w1.pb,.refl⟩
       .have jW:Ef i.Be i.name=false:=by simpa[Dp] using j
        rw[jW] at f;simp only[abS,↓reduceIte,l1,i1,(Ac:(0:Int)<=(n:Int)),r2.Ad,d,f.Cb rfl rfl,sub];exact .next n rfl ⟨Ac,go (by simp[show Dp i=false from jW]),rfl⟩ Ac
   .rintro n h1 ⟨x,A,v⟩;obtain⟨H,D,s,u,q⟩:=um (w1.after A v) g1.HG ht hv;simp only[B9,s.Ad];exact⟨_,rfl,rfl,D,u,(z.trans v).trans q⟩
  .obtain⟨ws,vy⟩:∃ws,ws=(if t.name=[108,105] then[[108,105]] else wDD):=⟨_,rfl⟩;have hw:Kf aR2 ws:=by rw[vy,Af y];exact aAK
   rw[<-vy];clear vy;simp only[abS,l0,l1,E,y,Cj,ln.Ad,DN (Ac: -9223372036854775808<=(c.AA.length:Int)-1) (Ac:(c.AA.length:Int)-1<9223372036854775808)];generalize put h bi 14 ff=hs at*;refine E2 (i:=0) (λn:Nat=>[I ((n:Int)-1)]) (λn h1=>n<=c.AA.length/\c.AA.reverse.find? (BS.Jd ws)=(c.AA.take n).reverse.find? (BS.Jd ws)/\h1=hs) (λn=>n) (λn h1=>∃F',PB h1 bi (c.HG ws) F'/\EH hs F h1 F') c.AA.length rfl ⟨Ab _,by rw[BN],rfl⟩ ?_ ?_
   .rintro n h1 ⟨hn,ha,rfl⟩;cases n with
    |zero=>
     have e:c.HG ws=c:=by unfold BS.HG;rw[ha];rfl
     simp only[abS,(Ac:¬(0:Int)<=((0:Nat):Int)-1)];exact .IE 0 rfl ⟨F,by rw[e];exact w1.pb,.refl⟩
    |succ n=>
     have hlt:n<c.AA.length:=Ac;have i1:((n+1:Nat):Int)-1=(n:Int):=Ac;have r2:=S_ w1.pb (n:Int);rw[HL hlt] at r2;rw[SF hlt,Hz] at ha;generalize hi:c.AA[n]=i at*;rw[Uz] at r2;have k:=uP hw i.name;have l:=uP yU i.name;have f:=zi i.Be i.name;have sub:=DN (Ac: -9223372036854775808<=(n:Int)-1) (Ac:(n:Int)-1<9223372036854775808);by_cases p:Bf ws i=true
     .have d:i.Be=1/\i.name∈ws:=by simpa[Bf] using p
      rw[Ak d.2] at k;obtain⟨h2,x,s,u,q⟩:=jV w1 g1 i.name i.name;have e:c.HG ws=c.Ds i.name i.name:=by unfold BS.HG;rw[ha];simp[BS.Jd,p]
      simp only[abS,↓reduceIte,l1,i1,(Ac:(0:Int)<=(n:Int)),r2.Ad,A3 d.1,k.Cb rfl rfl,s.Ad];exact .IE (n+1) (by rw[i1]) ⟨x,by rw[e];exact u,q⟩
     .have ċ:Bf ws i=false:=by simpa using p
      have C:BS.Jd ws i=(Dp i&& !(Bf Y4 i)):=by simp[BS.Jd,ċ]
      rw[C] at ha;have stop:Dp i=true->Bf Y4 i=false->c.HG ws=c:=λh1 h2=>by unfold BS.HG;rw[ha,h1,h2];simp[ċ]
      have go:(Dp i&& !(Bf Y4 i))=false->c.AA.reverse.find? (BS.Jd ws)=(c.AA.take n).reverse.find? (BS.Jd ws):=λh1=>by rw[ha,h1]
      by_cases d:i.Be=1
      .have B:i.name∉ws:=λh=>p (by simp[Bf,d,h]);rw[Ah B] at k;by_cases j:Dp i=true
       .have jW:Ef i.Be i.name=true:=j;rw[jW] at f;by_cases m:i.name∈Y4;.rw[Ak m] at l;simp only[abS,↓reduceIte,l1,i1,(Ac:(0:Int)<=(n:Int)),r2.Ad,A3 d,k.Cb rfl rfl,l.Cb rfl rfl,f.Cb rfl rfl,sub];exact .next n rfl ⟨Ac,go (by simp[Bf,d,m]),rfl⟩ Ac
        .rw[Ah m] at l;simp only[abS,↓reduceIte,l1,i1,(Ac:(0:Int)<=(n:Int)),r2.Ad,A3 d,k.Cb rfl rfl,l.Cb rfl rfl,f.Cb rfl rfl,sub];exact .IE (n+1) (by rw[i1]) ⟨F,by rw[stop j (by simp[Bf,m])];exact w1.pb,.refl⟩
       .have jW:Ef i.Be i.name=false:=by simpa[Dp] using j
        rw[jW] at f;simp only[abS,↓reduceIte,l1,i1,(Ac:(0:Int)<=(n:Int)),r2.Ad,A3 d,k.Cb rfl rfl,f.Cb rfl rfl,sub];exact .next n rfl ⟨Ac,go (by simp[show Dp i=false from jW]),rfl⟩ Ac
      .by_cases j:Dp i=true;.have jW:Ef i.Be i.name=true:=j;rw[jW] at f;simp only[abS,↓reduceIte,l1,i1,(Ac:(0:Int)<=(n:Int)),r2.Ad,d,f.Cb rfl rfl,sub];exact .IE (n+1) (by rw[i1]) ⟨F,by rw[stop j (by simp[Bf,d])];exact w1.pb,.refl⟩
       .have jW:Ef i.Be i.name=false:=by simpa[Dp] using j
        rw[jW] at f;simp only[abS,↓reduceIte,l1,i1,(Ac:(0:Int)<=(n:Int)),r2.Ad,d,f.Cb rfl rfl,sub];exact .next n rfl ⟨Ac,go (by simp[show Dp i=false from jW]),rfl⟩ Ac
   .rintro n h1 ⟨x,A,v⟩;obtain⟨H,D,s,u,q⟩:=um (w1.after A v) g1.HG ht hv;simp only[B9,s.Ad];exact⟨_,rfl,rfl,D,u,(z.trans v).trans q⟩
 obtain⟨r,h',hr,rfl,F',p',x'⟩:=OT.ret;exact⟨h',F',hr,p',x'⟩
def aAN(w:PB h bi b F)(g:Gz b n o a)(nm:Aj):B2 cx 212 [Pt bi 3,.str nm] h (I (E3 nm b.AY)) h/\(0<=E3 nm b.AY->∃v p,Bd h none (Pt bi 3)=some v/\Az (.FG 3) [v,I (E3 nm b.AY)]=some p/\∃q,Az (.KI 0) [p]=some q/\Bd h none q=some (I (b.AY.getD (E3 nm b.AY).toNat Ci.zero).node)):=by
 obtain⟨j,i,c,tt,G,w,hc,rfl⟩:=w;have XG:=g.rm.AY;obtain⟨fs,JF,Rv⟩:=hc;have Iq:fs.length=b.AY.length:=by rw[<-JF,Aw]
 have d:=aDo w.pH Rv Ac nm;rw[xZ,JF] at d;refine⟨d,λh0=>?_⟩;obtain⟨k,e,f⟩:=X7 h0;rw[f,By];have hk:k<fs.length:=Ac;have ea:=Bz.DB (k:= .i64) Rv hk;have hg:b.AY.getD k Ci.zero=fs[k].c:=by rw[AK,<-JF,CA,Au hk];rfl
 exact⟨c,_,w.l3,ea,_,rfl,by rw[hg];rfl⟩
def aJh(w:SW h bi b F si t av)(g:Gz b (n+8*(4*(o+8)+10)+4*(a+8)+5) o a)(ht:t.Sm)(hv:A6 t.As av):Fc h F 176 [Pt si 0] (.tuple []) bi (b.jO t):=by
 obtain⟨m,C⟩:=aAN w.pb g [97];unfold BS.jO BS.QV;dsimp only;by_cases u:E3 [97] b.AY<0;.rw[Ag u];have l0:=w.B4;obtain⟨h1,I,f,d,c⟩:=aAH w (g.dn (n':=n+4*a+5) Ac) ht hv;have w1:=w.after d c;have l1:=w1.B4;refine⟨_,_,?_,d,c⟩;rw[Ae,VB];simp only[B9,Nat.reduceLeDiff,↓reduceIte,Bj,YU,l0,f.Ad,l1,m.Ad,(Ac:¬(0:Int)<=E3 [97] b.AY)]
 .rw[Af u];obtain⟨v,p,H,G,q,E,D⟩:=C Ac;have g0:Gz b (n+4*(a+8)+5+8*(4*(o+8)+10)) o a:=g.dn Ac;generalize(b.AY.getD (E3 [97] b.AY).toNat Ci.zero).node=nd at*;have l0:=w.B4;obtain⟨h1,I,f,d,c⟩:=Yi w.pb g0 [97];have w1:=w.after d c;have l1:=w1.B4;obtain⟨_,h2,N,r2,s,k⟩:=aAI d g0.Dh nd;have l:=w1.after s k;have B:=l.B4;obtain⟨_,K,M,z,A,j⟩:=oJ s (g0.Dh.sub (lo:=(b.Dh [97]).AA) (lc:=BS.JZ (b.Dh [97]).AY nd) (lt:=(b.Dh [97]).tm) (AE _) PM (Ab _)) nd;have e:=l.after A j;have l3:=e.B4;obtain⟨J,L,y,r,i⟩:=aAH e (g0.Dh.sub (lo:=Cv nd (b.Dh [97]).AA) (lc:=BS.JZ (b.Dh [97]).AY nd) (lt:=(b.Dh [97]).tm) Gv PM (Ab _)) ht hv;have x:=e.after r i;have l4:=x.B4;refine⟨_,_,?_,r,((c.trans k).trans j).trans i⟩;rw[Ae,VB];simp only[B9,Nat.reduceLeDiff,↓reduceIte,Bj,YU,l0,f.Ad,l1,r2.Ad,B,z.Ad,l3,y.Ad,l4,m.Ad,(Ac:(0:Int)<=E3 [97] b.AY),H,G,E,D]
def oQ{x:AZ}{l:List AZ}:BS.PL (x::l)=if x.name=aRj then decide (EM x.value=aQ3) else BS.PL l:=by
 unfold BS.PL;rw[Hz];by_cases h:x.name=aRj;.simp[h]
 .simp[h]
def aJi(ht:t.Sm)(hv:A6 t.As av)(h:Ai):B2 cx 242 [.agg (B1 t av)] h (.bool (BS.PL t.As)) h:=by
 have yl:AJ=140737488355328:=rfl;have Hq:Bz 3 (t.As.map AZ.row) av:=hv;have e:=Bz.GO Hq;have hb:=ht.As.1;have hcl:EM aQ3=aQ3:=Pu AM;rw[Ae,hZ];simp only[B9,e];refine BM (λn:Nat=>[ff,I (n:Int)]) (λn h1=>n<=t.As.length/\h1=h/\BS.PL t.As=BS.PL (t.As.drop n)) (λn=>t.As.length-n) 0 rfl ⟨Bc _,rfl,rfl⟩ ?_;rintro n h1 ⟨hn,rfl,ha⟩;rcases Bl n t.As.length with hlt|GS
 .have d:=Bz.DB (k:= .i64) Hq hlt;have Qr:=(ht.As.2 _ (Bb hlt)).2;have c:=f189 t.As[n].value aQ3 Ac AM;rw[hcl] at c;rw[Ay hlt,oQ] at ha;rw[AZ.row] at d;simp only[abS,Nat.reduceLeDiff,↓reduceIte,(Ac:(n:Int)<(t.As.length:Int)),d,c.Cb rfl rfl,CE (Ac:n<9223372036854775807)];refine⟨λh2=>?_,λh2=>?_⟩;.rw[ha,Ag h2]
  .rw[Af h2] at ha;exact Br.next (n+1) rfl ⟨hlt,rfl,ha⟩ Ac
 .rw[AV GS] at ha;simp only[abS,(Ac:¬(n:Int)<(t.As.length:Int)),ha];rfl
def SW.U_(w:SW h bi b F si t av)(nm:Aj):CK h 1 (Pt si 2) (.str nm)=some (put h si 2 (.str nm))/\SW (put h si 2 (.str nm)) bi b F si {t with name:=nm} av/\EH h (λi=>F i\/i=si) (put h si 2 (.str nm)) (λi=>F i\/i=si):=by have hs:At h si 2 (.str t.name):=⟨_,w.sc,rfl⟩;refine⟨hs.store (u:= .str nm) rfl,⟨w.pb.E4 λi hi=>CU λe=>w.no (e▸hi),?_,w.no⟩,⟨by rw[LA];exact Ab _,λi _ hn=>CU λe=>hn (.inr e),λ_ h=> .inl h⟩⟩;rw[Jr w.sc];rfl
def aEU(w:SW h bi b F si t av)(g:Gz b (n+4*a+4) o a)(ht:t.Sm)(hv:A6 t.As av):uo h F si 165 [Pt si 0] (.tuple []) bi (b.empty t):=by
 have B:Gz b (n+4) o a:=g.dn Ac;have g1:Gz b (n+4+4*a) o a:=g.dn Ac;unfold BS.empty;by_cases q:t.name=[104,114];.rw[Ag q];refine Fc.K9 ?_;have l0:=w.B4;obtain⟨h1,v,m,f,d⟩:=IY w.pb B;have w1:=w.after f d;have l1:=w1.B4;obtain⟨h2,z,r2,e,c⟩:=uR f B.B7 ht hv;have j:=w1.after e c;have p:=j.B4;obtain⟨s,l,k⟩:=Kv e false;have r:=j.after l k;have l3:=r.B4;refine⟨_,_,?_,l,(d.trans c).trans k⟩;rw[Ae,KG];simp only[abS,l0,m.Ad,l1,r2.Ad,p,s,A3 q]
 rw[Af q];by_cases i:t.name∈Q_
 .rw[Ag i];refine Fc.K9 ?_;have l0:=w.B4;obtain⟨h1,v,m,f,d⟩:=uR w.pb B ht hv;have w1:=w.after f d;have l1:=w1.B4;obtain⟨r2,e,c⟩:=Kv f b.fs;have j:=w1.after e c;have p:=j.B4;simp only[Q_,AF,M7,vo] at i;by_cases y:t.name=aRP
  .skip
   refine⟨_,_,?_,e,d.trans c⟩;rw[Ae,KG];simp only[abS,l0,m.Ad,l1,r2,q,A3 y]
  by_cases A:t.name=aRv;.refine⟨_,_,?_,e,d.trans c⟩;rw[Ae,KG];simp only[abS,l0,m.Ad,l1,r2,q,y,A3 A]
  .have G:t.name=aRQ:=by simpa[y,A] using i
   refine⟨_,_,?_,e,d.trans c⟩;rw[Ae,KG];simp only[abS,l0,m.Ad,l1,r2,q,y,A,A3 G]
 rw[Af i];simp only[Q_,AF,M7,vo,PR] at i;by_cases u:t.name=aRF
 .rw[Ag u];refine Fc.K9 ?_;cases kf:b.fs with
  |true=>have l0:=w.B4;obtain⟨h1,v,m,f,d⟩:=CV w.pb g1;have w1:=w.after f d;have l1:=w1.B4;have D:=aJi ht hv h1;obtain⟨h2,z,r2,e,c⟩:=uR f g1.AU ht hv;have j:=w1.after e c;have p:=j.B4;obtain⟨s,l,k⟩:=Kv e (BS.PL t.As);have r:=j.after l k;have l3:=r.B4;rw[kf] at l0;refine⟨_,_,?_,l,(d.trans c).trans k⟩;rw[Ae,KG];simp only[abS,l0,m.Ad,l1,D.Ad,r2.Ad,p,s,q,i.1,i.2.1,i.2.2,A3 u]
  |false=>have l0:=w.B4;obtain⟨h1,v,m,f,d⟩:=CV w.pb g1;have w1:=w.after f d;have l1:=w1.B4;obtain⟨h2,z,r2,e,c⟩:=uR f g1.AU ht hv;have j:=w1.after e c;have p:=j.B4;obtain⟨s,l,k⟩:=Kv e false;have r:=j.after l k;have l3:=r.B4;rw[kf] at l0;refine⟨_,_,?_,l,(d.trans c).trans k⟩;rw[Ae,KG];simp only[abS,l0,m.Ad,l1,r2.Ad,p,s,q,i.1,i.2.1,i.2.2,A3 u]
 rw[Af u];by_cases x:t.name=aRJ;.rw[Ag x];have E:=w.B4;obtain⟨s0,w,C⟩:=w.U_ aRV;have IN:({t with name:=aRV}:DJ).Sm:=ht.rn AM;have l0:=w.B4;obtain⟨h1,v,m,f,d⟩:=CV w.pb g1;have w1:=w.after f d;have l1:=w1.B4;obtain⟨h2,z,r2,e,c⟩:=uR f g1.AU IN hv;have j:=w1.after e c;have p:=j.B4;obtain⟨s,l,k⟩:=Kv e false;have r:=j.after l k;have l3:=r.B4;refine⟨_,_,?_,l,C.trans ((d.trans c).trans k).oP⟩;rw[Ae,KG];simp only[abS,E,q,i.1,i.2.1,i.2.2,u,A3 x,s0,l0,m.Ad,l1,r2.Ad,p,s]
 .rw[Af x];refine Fc.K9 ?_;have l0:=w.B4;obtain⟨h1,v,m,f,d⟩:=CV w.pb g1;have w1:=w.after f d;have l1:=w1.B4;obtain⟨h2,z,r2,e,c⟩:=uR f g1.AU ht hv;have j:=w1.after e c;have p:=j.B4;obtain⟨s,l,k⟩:=Kv e false;have r:=j.after l k;have l3:=r.B4;refine⟨_,_,?_,l,(d.trans c).trans k⟩;rw[Ae,KG];simp only[abS,l0,m.Ad,l1,r2.Ad,p,s,q,i.1,i.2.1,i.2.2,u,x]
end
end Go.Am
end
